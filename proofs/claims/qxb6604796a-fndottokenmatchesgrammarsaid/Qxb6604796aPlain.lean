/-
  THE PLAIN LAYER: lists of bytes alone; no program, no model's run.
-/
import Derived.Lib.IndexMore
namespace Go.Proofs.Qxb6604796a.Plain

def digit (c : UInt8) : Bool := decide (48 ≤ c.toNat) && decide (c.toNat ≤ 57)
def letter (c : UInt8) : Bool := (decide (97 ≤ c.toNat) && decide (c.toNat ≤ 122)) || (decide (65 ≤ c.toNat) && decide (c.toNat ≤ 90)) || decide (c.toNat = 95) || decide (128 ≤ c.toNat)

/-- How many of the first bytes meet p. -/
def run (p : UInt8 → Bool) : List UInt8 → Nat
  | [] => 0
  | c :: l => if p c then run p l + 1 else 0

def notNl (c : UInt8) : Bool := decide (c.toNat ≠ 10)
def idb (c : UInt8) : Bool := letter c || digit c

/-- The first place, from i on, at which the block comment's end stands. -/
def bc : List UInt8 → Nat → Option Nat
  | [], _ => none
  | [_], _ => none
  | c :: d :: l, i => if c = 42 ∧ d = 47 then some i else bc (d :: l) (i + 1)

/-- Just past the closing quote. -/
def qend : List UInt8 → Nat → Option Nat
  | [], _ => none
  | [c], i => if c = 92 then none else if c = 34 then some (i + 1) else none
  | c :: d :: l, i => if c = 92 then qend l (i + 2) else if c = 34 then some (i + 1) else qend (d :: l) (i + 1)

/-- Just past the bracket that closes the first. -/
def hend : List UInt8 → Int → Nat → Option Nat
  | [], _, _ => none
  | c :: l, d, i => if c = 60 then hend l (d + 1) (i + 1) else if c = 62 then (if d - 1 = 0 then some (i + 1) else hend l (d - 1) (i + 1)) else hend l d (i + 1)

/-- The unsigned numeral at the head. -/
def numAt (l : List UInt8) : Nat :=
  if (l.drop (run digit l)).head? = some 46 ∧ (0 < run digit l ∨ 0 < run digit (l.drop (run digit l + 1))) then run digit l + 1 + run digit (l.drop (run digit l + 1)) else run digit l

def num (c : UInt8) (r : List UInt8) : Nat × Nat :=
  if c = 45 then (if 0 < numAt r then (2, 1 + numAt r) else (0, 1)) else if 0 < numAt (c :: r) then (2, numAt (c :: r)) else (0, 1)

def orAll (o : Option Nat) (n : Nat) : Nat := match o with | some m => m | none => n

def tok1 (c : UInt8) (r : List UInt8) : Nat × Nat :=
  if c = 35 ∨ (c = 47 ∧ r.head? = some 47) then (6, 1 + run notNl r)
  else if c = 47 ∧ r.head? = some 42 then (6, orAll ((bc (r.drop 1) 2).map (· + 2)) (1 + r.length))
  else if c = 34 then (4, orAll (qend r 1) (1 + r.length))
  else if c = 60 then (5, orAll (hend r 1 1) (1 + r.length))
  else if letter c = true then (1, 1 + run idb r)
  else if c = 45 ∧ (r.head? = some 62 ∨ r.head? = some 45) then (3, 2)
  else num c r

def tok : List UInt8 → Nat × Nat
  | [] => (0, 1)
  | c :: r => tok1 c r

/-! ### Runs -/
theorem run_le (p : UInt8 → Bool) : ∀ l : List UInt8, run p l ≤ l.length
  | [] => Nat.le_refl _
  | c :: l => by
    have := run_le p l
    unfold run
    split <;> simp <;> omega
theorem run_take (p : UInt8 → Bool) : ∀ (l : List UInt8) (m : Nat), run p (l.take m) = min (run p l) m
  | [], m => by simp [run]
  | c :: l, 0 => by simp [run]
  | c :: l, m + 1 => by
    have ih := run_take p l m
    simp only [List.take_succ_cons, run]
    split
    · rw [ih]; omega
    · simp
theorem run_at (p : UInt8 → Bool) : ∀ l : List UInt8, ∀ c, l[run p l]? = some c → p c = false
  | [], c, h => by simp at h
  | d :: l, c, h => by
    by_cases hp : p d = true
    · have e : run p (d :: l) = run p l + 1 := by rw [run, if_pos hp]
      rw [e] at h
      exact run_at p l c (by simpa using h)
    · have e : run p (d :: l) = 0 := by rw [run, if_neg hp]
      rw [e] at h
      simp at h
      rw [← h]
      simpa using hp
theorem run_hit (p : UInt8 → Bool) (c : UInt8) (l : List UInt8) (h : p c = true) : run p (c :: l) = run p l + 1 := by rw [run, if_pos h]
theorem run_miss (p : UInt8 → Bool) (c : UInt8) (l : List UInt8) (h : p c = false) : run p (c :: l) = 0 := by rw [run, if_neg (by rw [h]; exact Bool.false_ne_true)]

/-! ### The ends -/
theorem bc_bd : ∀ (l : List UInt8) (i m : Nat), bc l i = some m → i ≤ m ∧ m + 2 ≤ i + l.length
  | [], _, _, h => by simp [bc] at h
  | [_], _, _, h => by simp [bc] at h
  | c :: d :: l, i, m, h => by
    unfold bc at h
    by_cases hc : c = 42 ∧ d = 47
    · rw [if_pos hc] at h
      simp at h
      simp
      omega
    · rw [if_neg hc] at h
      have := bc_bd (d :: l) (i + 1) m h
      simp at this ⊢
      omega
theorem bc_take : ∀ (l : List UInt8) (i m : Nat), bc l i = some m → bc (l.take (m + 2 - i)) i = some m
  | [], _, _, h => by simp [bc] at h
  | [_], _, _, h => by simp [bc] at h
  | c :: d :: l, i, m, h => by
    have hbd := bc_bd _ _ _ h
    unfold bc at h
    obtain ⟨k, hk⟩ : ∃ k, m + 2 - i = k + 2 := ⟨m - i, by omega⟩
    rw [hk]
    simp only [List.take_succ_cons]
    by_cases hc : c = 42 ∧ d = 47
    · rw [if_pos hc] at h
      rw [bc, if_pos hc]
      exact h
    · rw [if_neg hc] at h
      have hb2 := bc_bd _ _ _ h
      have ih := bc_take (d :: l) (i + 1) m h
      rw [show m + 2 - (i + 1) = k + 1 from by omega, List.take_succ_cons] at ih
      rw [bc, if_neg hc]
      exact ih

theorem qend_bd : ∀ (l : List UInt8) (i m : Nat), qend l i = some m → i + 1 ≤ m ∧ m ≤ i + l.length
  | [], _, _, h => by simp [qend] at h
  | [c], i, m, h => by
    unfold qend at h
    by_cases h1 : c = 92
    · simp [h1] at h
    · by_cases h2 : c = 34
      · simp [h2] at h; simp; omega
      · simp [h1, h2] at h
  | c :: d :: l, i, m, h => by
    unfold qend at h
    by_cases h1 : c = 92
    · rw [if_pos h1] at h
      have := qend_bd l _ _ h
      simp; omega
    · rw [if_neg h1] at h
      by_cases h2 : c = 34
      · rw [if_pos h2] at h; simp at h; simp; omega
      · rw [if_neg h2] at h
        have := qend_bd (d :: l) _ _ h
        simp at this ⊢; omega
theorem qend_take : ∀ (l : List UInt8) (i m : Nat), qend l i = some m → qend (l.take (m - i)) i = some m
  | [], _, _, h => by simp [qend] at h
  | [c], i, m, h => by
    have hb := qend_bd _ _ _ h
    obtain ⟨k, hk⟩ : ∃ k, m - i = k + 1 := ⟨m - i - 1, by omega⟩
    rw [hk]
    simpa using h
  | c :: d :: l, i, m, h => by
    have hb := qend_bd _ _ _ h
    unfold qend at h
    by_cases h1 : c = 92
    · rw [if_pos h1] at h
      have hb2 := qend_bd _ _ _ h
      obtain ⟨k, hk⟩ : ∃ k, m - i = k + 2 := ⟨m - i - 2, by omega⟩
      have ih := qend_take l _ _ h
      rw [show m - (i + 2) = k from by omega] at ih
      rw [hk]
      simp only [List.take_succ_cons]
      rw [qend, if_pos h1]
      exact ih
    · rw [if_neg h1] at h
      by_cases h2 : c = 34
      · rw [if_pos h2] at h
        simp at h
        rw [show m - i = 1 from by omega]
        simp only [List.take_succ_cons, List.take_zero]
        rw [qend, if_neg h1, if_pos h2]
        simp [h]
      · rw [if_neg h2] at h
        have hb2 := qend_bd _ _ _ h
        have ih := qend_take (d :: l) _ _ h
        obtain ⟨k, hk⟩ : ∃ k, m - i = k + 2 := ⟨m - i - 2, by omega⟩
        rw [show m - (i + 1) = k + 1 from by omega, List.take_succ_cons] at ih
        rw [hk]
        simp only [List.take_succ_cons]
        rw [qend, if_neg h1, if_neg h2]
        exact ih

theorem hend_bd : ∀ (l : List UInt8) (d : Int) (i m : Nat), hend l d i = some m → i + 1 ≤ m ∧ m ≤ i + l.length
  | [], _, _, _, h => by simp [hend] at h
  | c :: l, d, i, m, h => by
    unfold hend at h
    split at h
    · have := hend_bd l _ _ _ h; simp; omega
    · split at h
      · split at h
        · simp at h; simp; omega
        · have := hend_bd l _ _ _ h; simp; omega
      · have := hend_bd l _ _ _ h; simp; omega
theorem hend_take : ∀ (l : List UInt8) (d : Int) (i m : Nat), hend l d i = some m → hend (l.take (m - i)) d i = some m
  | [], _, _, _, h => by simp [hend] at h
  | c :: l, d, i, m, h => by
    have hb := hend_bd _ _ _ _ h
    obtain ⟨k, hk⟩ : ∃ k, m - i = k + 1 := ⟨m - i - 1, by omega⟩
    rw [hk, List.take_succ_cons]
    unfold hend at h ⊢
    by_cases h1 : c = 60
    · rw [if_pos h1] at h ⊢
      have ih := hend_take l _ _ _ h
      rw [show m - (i + 1) = k from by omega] at ih
      exact ih
    · rw [if_neg h1] at h ⊢
      by_cases h2 : c = 62
      · rw [if_pos h2] at h ⊢
        by_cases h3 : d - 1 = 0
        · rw [if_pos h3] at h ⊢; exact h
        · rw [if_neg h3] at h ⊢
          have ih := hend_take l _ _ _ h
          rw [show m - (i + 1) = k from by omega] at ih
          exact ih
      · rw [if_neg h2] at h ⊢
        have ih := hend_take l _ _ _ h
        rw [show m - (i + 1) = k from by omega] at ih
        exact ih

/-! ### The numeral -/
theorem numAt_le (l : List UInt8) : numAt l ≤ l.length := by
  have h1 := run_le digit l
  unfold numAt
  split
  · rename_i h
    have h2 := run_le digit (l.drop (run digit l + 1))
    have h3 : run digit l < l.length := by
      rcases Nat.lt_or_ge (run digit l) l.length with h' | h'
      · exact h'
      · rw [List.drop_of_length_le h'] at h; simp at h
    rw [List.length_drop] at h2
    omega
  · exact h1
theorem head_drop_take (l : List UInt8) (d n : Nat) (h : d < n) : ((l.take n).drop d).head? = (l.drop d).head? := by
  rw [List.head?_drop, List.head?_drop, List.getElem?_take, if_pos h]
theorem numAt_take (l : List UInt8) : numAt (l.take (numAt l)) = numAt l := by
  have h1 := run_le digit l
  by_cases h : (l.drop (run digit l)).head? = some 46 ∧ (0 < run digit l ∨ 0 < run digit (l.drop (run digit l + 1)))
  · have e : numAt l = run digit l + 1 + run digit (l.drop (run digit l + 1)) := by rw [numAt, if_pos h]
    rw [e]
    have r1 : run digit (l.take (run digit l + 1 + run digit (l.drop (run digit l + 1)))) = run digit l := by rw [run_take]; omega
    have r2 : run digit ((l.take (run digit l + 1 + run digit (l.drop (run digit l + 1)))).drop (run digit l + 1)) = run digit (l.drop (run digit l + 1)) := by
      rw [List.drop_take, run_take]
      omega
    rw [numAt, r1, r2, head_drop_take _ _ _ (by omega), if_pos h]
  · have e : numAt l = run digit l := by rw [numAt, if_neg h]
    rw [e]
    have r1 : run digit (l.take (run digit l)) = run digit l := by rw [run_take]; omega
    rw [numAt, r1, if_neg]
    intro hc
    rw [List.drop_of_length_le (by rw [List.length_take]; omega)] at hc
    simp at hc

theorem numAt_pos_take (l : List UInt8) (n : Nat) (h : numAt l = n) : numAt (l.take n) = n := by rw [← h]; exact numAt_take l

theorem num_two {c : UInt8} {r : List UInt8} {n : Nat} (h : num c r = (2, n)) : 1 ≤ n ∧ n ≤ 1 + r.length ∧ num c (r.take (n - 1)) = (2, n) := by
  unfold num at h
  by_cases hc : c = 45
  · rw [if_pos hc] at h
    by_cases hn : 0 < numAt r
    · rw [if_pos hn] at h
      obtain ⟨_, rfl⟩ := Prod.mk.inj h
      have hl := numAt_le r
      refine ⟨by omega, by omega, ?_⟩
      rw [show 1 + numAt r - 1 = numAt r from by omega, num, if_pos hc, numAt_take, if_pos hn]
    · rw [if_neg hn] at h; simp at h
  · rw [if_neg hc] at h
    by_cases hn : 0 < numAt (c :: r)
    · rw [if_pos hn] at h
      obtain ⟨_, rfl⟩ := Prod.mk.inj h
      have hl := numAt_le (c :: r)
      have ht := numAt_take (c :: r)
      obtain ⟨k, hk⟩ : ∃ k, numAt (c :: r) = k + 1 := ⟨numAt (c :: r) - 1, by omega⟩
      rw [hk] at ht hl hn ⊢
      rw [List.take_succ_cons] at ht
      simp at hl
      refine ⟨by omega, by omega, ?_⟩
      rw [show k + 1 - 1 = k from by omega, num, if_neg hc, ht, if_pos hn]
    · rw [if_neg hn] at h; simp at h
theorem numAt_nil : numAt [] = 0 := by simp [numAt, run]
theorem numAt_one (c : UInt8) (h : digit c = false) : numAt [c] = 0 := by
  have r0 : run digit [c] = 0 := run_miss _ _ _ h
  rw [numAt, r0]
  simp [run]
theorem num_other {c : UInt8} {r : List UInt8} {n : Nat} (h : num c r = (0, n)) : n = 1 ∧ num c [] = (0, 1) := by
  unfold num at h
  by_cases hc : c = 45
  · rw [if_pos hc] at h
    by_cases hn : 0 < numAt r
    · rw [if_pos hn] at h; simp at h
    · rw [if_neg hn] at h
      obtain ⟨_, rfl⟩ := Prod.mk.inj h
      refine ⟨rfl, ?_⟩
      rw [num, if_pos hc, numAt_nil, if_neg (by omega)]
  · rw [if_neg hc] at h
    by_cases hn : 0 < numAt (c :: r)
    · rw [if_pos hn] at h; simp at h
    · rw [if_neg hn] at h
      obtain ⟨_, rfl⟩ := Prod.mk.inj h
      refine ⟨rfl, ?_⟩
      have hd : digit c = false := by
        cases hd : digit c with
        | false => rfl
        | true =>
          exfalso
          apply hn
          have := run_hit digit c r hd
          unfold numAt
          split <;> omega
      rw [num, if_neg hc, numAt_one c hd, if_neg (by omega)]
theorem num_kind (c : UInt8) (r : List UInt8) : (num c r).1 = 2 ∨ (num c r).1 = 0 := by
  unfold num
  split
  · split
    · exact .inl rfl
    · exact .inr rfl
  · split
    · exact .inl rfl
    · exact .inr rfl

theorem orAll_take {l : List UInt8} (f : List UInt8 → Option Nat) (hb : ∀ m, f l = some m → 2 ≤ m ∧ m ≤ 1 + l.length) (ht : ∀ m, f l = some m → f (l.take (m - 1)) = some m) :
    1 ≤ orAll (f l) (1 + l.length) ∧ orAll (f l) (1 + l.length) ≤ 1 + l.length ∧ orAll (f (l.take (orAll (f l) (1 + l.length) - 1))) (1 + (l.take (orAll (f l) (1 + l.length) - 1)).length) = orAll (f l) (1 + l.length) := by
  cases h : f l with
  | none =>
    have e : 1 + l.length - 1 = l.length := by omega
    refine ⟨by show 1 ≤ 1 + l.length; omega, Nat.le_refl _, ?_⟩
    show orAll (f (l.take (1 + l.length - 1))) _ = 1 + l.length
    rw [e, List.take_of_length_le (Nat.le_refl _), h]
    show 1 + (l.take (1 + l.length - 1)).length = _
    rw [e, List.take_of_length_le (Nat.le_refl _)]
  | some m =>
    have := hb m h
    refine ⟨by show 1 ≤ m; omega, by show m ≤ _; omega, ?_⟩
    show orAll (f (l.take (m - 1))) _ = m
    rw [ht m h]
    rfl

theorem head_take {l : List UInt8} {n : Nat} (h : 0 < n) : (l.take n).head? = l.head? := by
  rw [List.head?_take, if_neg (by omega)]

/-- THE SECOND LAW's CORE: the token's own text reads as the token. -/
theorem tok1_own (c : UInt8) (r : List UInt8) : (tok1 c r).1 ≤ 6 ∧ 1 ≤ (tok1 c r).2 ∧ (tok1 c r).2 ≤ 1 + r.length ∧ tok1 c (r.take ((tok1 c r).2 - 1)) = tok1 c r := by
  by_cases h1 : c = 35 ∨ (c = 47 ∧ r.head? = some 47)
  · have e : tok1 c r = (6, 1 + run notNl r) := by rw [tok1, if_pos h1]
    have hr := run_le notNl r
    rw [e]
    refine ⟨Nat.le_refl _, by show 1 ≤ 1 + run notNl r; omega, by show 1 + run notNl r ≤ _; omega, ?_⟩
    show tok1 c (r.take (1 + run notNl r - 1)) = _
    rw [show 1 + run notNl r - 1 = run notNl r from by omega, tok1, if_pos, run_take, Nat.min_self]
    rcases h1 with h1 | ⟨h1, h2⟩
    · exact .inl h1
    · refine .inr ⟨h1, ?_⟩
      cases r with
      | nil => simp at h2
      | cons d l =>
        simp at h2
        subst h2
        rw [head_take (by rw [run_hit _ _ _ (by decide)]; omega)]
        rfl
  · by_cases h2 : c = 47 ∧ r.head? = some 42
    · have e : tok1 c r = (6, orAll ((bc (r.drop 1) 2).map (· + 2)) (1 + r.length)) := by rw [tok1, if_neg h1, if_pos h2]
      have hr1 : 1 ≤ r.length := by
        cases r with
        | nil => simp at h2
        | cons _ _ => simp
      have hbb : ∀ m, (bc (r.drop 1) 2).map (· + 2) = some m → 4 ≤ m ∧ m ≤ 1 + r.length := fun m hm => by
        cases hb : bc (r.drop 1) 2 with
        | none => rw [hb] at hm; simp at hm
        | some i =>
          rw [hb] at hm
          simp at hm
          have := bc_bd _ _ _ hb
          rw [List.length_drop] at this
          omega
      have key := orAll_take (l := r) (fun l => (bc (l.drop 1) 2).map (· + 2)) (fun m hm => by have := hbb m hm; omega) (fun m hm => by
        have hb4 := hbb m hm
        cases hb : bc (r.drop 1) 2 with
        | none => rw [hb] at hm; simp at hm
        | some i =>
          rw [hb] at hm
          simp at hm
          have ht := bc_take _ _ _ hb
          rw [List.drop_take, show m - 1 - 1 = i + 2 - 2 from by omega, ht]
          simp [hm])
      have hlo : 2 ≤ orAll ((bc (r.drop 1) 2).map (· + 2)) (1 + r.length) := by
        cases hb : (bc (r.drop 1) 2).map (· + 2) with
        | none => show 2 ≤ 1 + r.length; omega
        | some m => have := hbb m hb; show 2 ≤ m; omega
      rw [e]
      simp only at key ⊢
      generalize orAll ((bc (r.drop 1) 2).map (· + 2)) (1 + r.length) = n at key hlo ⊢
      have hh : (r.take (n - 1)).head? = r.head? := head_take (by omega)
      refine ⟨Nat.le_refl _, key.1, key.2.1, ?_⟩
      rw [tok1, if_neg (by rw [hh]; exact h1), if_pos (by rw [hh]; exact h2), key.2.2]
    · by_cases h3 : c = 34
      · have e : tok1 c r = (4, orAll (qend r 1) (1 + r.length)) := by rw [tok1, if_neg h1, if_neg h2, if_pos h3]
        have key := orAll_take (l := r) (fun l => qend l 1) (fun m hm => by have := qend_bd _ _ _ hm; omega) (fun m hm => qend_take _ _ _ hm)
        rw [e]
        simp only at key ⊢
        refine ⟨by omega, key.1, key.2.1, ?_⟩
        rw [tok1, if_neg (by rw [h3]; intro h; rcases h with h | h; exact absurd h (by decide); exact absurd h.1 (by decide)), if_neg (by rw [h3]; intro h; exact absurd h.1 (by decide)), if_pos h3, key.2.2]
      · by_cases h4 : c = 60
        · have e : tok1 c r = (5, orAll (hend r 1 1) (1 + r.length)) := by rw [tok1, if_neg h1, if_neg h2, if_neg h3, if_pos h4]
          have key := orAll_take (l := r) (fun l => hend l 1 1) (fun m hm => by have := hend_bd _ _ _ _ hm; omega) (fun m hm => hend_take _ _ _ _ hm)
          rw [e]
          simp only at key ⊢
          refine ⟨by omega, key.1, key.2.1, ?_⟩
          rw [tok1, if_neg (by rw [h4]; intro h; rcases h with h | h; exact absurd h (by decide); exact absurd h.1 (by decide)), if_neg (by rw [h4]; intro h; exact absurd h.1 (by decide)), if_neg h3, if_pos h4, key.2.2]
        · by_cases h5 : letter c = true
          · have e : tok1 c r = (1, 1 + run idb r) := by rw [tok1, if_neg h1, if_neg h2, if_neg h3, if_neg h4, if_pos h5]
            have hr := run_le idb r
            have n35 : c ≠ 35 := fun h => by rw [h] at h5; exact absurd h5 (by decide)
            have n47 : c ≠ 47 := fun h => by rw [h] at h5; exact absurd h5 (by decide)
            rw [e]
            refine ⟨by show (1 : Nat) ≤ 6; omega, by show 1 ≤ 1 + run idb r; omega, by show 1 + run idb r ≤ _; omega, ?_⟩
            show tok1 c (r.take (1 + run idb r - 1)) = _
            rw [show 1 + run idb r - 1 = run idb r from by omega, tok1, if_neg (by intro h; rcases h with h | h; exact n35 h; exact n47 h.1), if_neg (by intro h; exact n47 h.1), if_neg h3, if_neg h4, if_pos h5, run_take, Nat.min_self]
          · by_cases h6 : c = 45 ∧ (r.head? = some 62 ∨ r.head? = some 45)
            · have e : tok1 c r = (3, 2) := by rw [tok1, if_neg h1, if_neg h2, if_neg h3, if_neg h4, if_neg h5, if_pos h6]
              have hr1 : 1 ≤ r.length := by
                cases r with
                | nil => simp at h6
                | cons _ _ => simp
              have hh : (r.take 1).head? = r.head? := head_take (by omega)
              rw [e]
              refine ⟨by decide, by decide, by show 2 ≤ _; omega, ?_⟩
              show tok1 c (r.take 1) = _
              rw [tok1, if_neg (by rw [hh]; exact h1), if_neg (by rw [hh]; exact h2), if_neg h3, if_neg h4, if_neg h5, if_pos (by rw [hh]; exact h6)]
            · have e : tok1 c r = num c r := by rw [tok1, if_neg h1, if_neg h2, if_neg h3, if_neg h4, if_neg h5, if_neg h6]
              have hsub : ∀ n, tok1 c (r.take n) = num c (r.take n) := fun n => by
                have hh : (r.take n).head? = r.head? ∨ (r.take n).head? = none := by
                  rcases Nat.eq_zero_or_pos n with h | h
                  · right; rw [h]; rfl
                  · left; exact head_take h
                rw [tok1, if_neg, if_neg, if_neg h3, if_neg h4, if_neg h5, if_neg]
                · intro h
                  rcases hh with hh | hh <;> rw [hh] at h
                  · exact h6 h
                  · simp at h
                · intro h
                  rcases hh with hh | hh <;> rw [hh] at h
                  · exact h2 h
                  · simp at h
                · intro h
                  rcases hh with hh | hh <;> rw [hh] at h
                  · exact h1 h
                  · simp at h
                    exact h1 (.inl h)
              rw [e, hsub]
              obtain ⟨⟨k, n⟩, hn⟩ : ∃ p, num c r = p := ⟨_, rfl⟩
              have hkk := num_kind c r
              rw [hn] at hkk ⊢
              rcases hkk with hk | hk
              · simp only at hk
                subst hk
                obtain ⟨a, b, d⟩ := num_two hn
                exact ⟨by show (2 : Nat) ≤ 6; omega, a, b, d⟩
              · simp only at hk
                subst hk
                obtain ⟨rfl, d⟩ := num_other hn
                exact ⟨by show (0 : Nat) ≤ 6; omega, by show 1 ≤ 1; omega, by show 1 ≤ _; omega, d⟩

end Go.Proofs.Qxb6604796a.Plain
