/-
  THE PLAIN LAYER: lists of bytes alone; no program, no model's run.
-/
import Derived.Lib.IndexLaws
import Derived.Lib.Strings
namespace Go.Proofs.Qxb6604702a.Plain

/-- onlyEmptyLines. -/
def only : List UInt8 → Bool
  | [] => true
  | [c] => decide (c = 10)
  | c :: d :: l => (decide (c = 10) || (decide (c = 13) && decide (d = 10))) && only (d :: l)

/-- The whole lines at the head of a text: up to its last newline. -/
def whole : List UInt8 → List UInt8
  | [] => []
  | c :: l => if 10 ∈ c :: l then c :: whole l else []

/-- Whole lines. -/
def Whole (l : List UInt8) : Prop := l = [] ∨ ∃ p, l = p ++ [10]

theorem only_ten (l : List UInt8) : only (10 :: l) = only l := by
  cases l <;> simp [only]
theorem only_end (l : List UInt8) : only (13 :: 10 :: l) = only l := by
  rw [only, only_ten]
  simp
theorem only_no (c : UInt8) (l : List UInt8) (h1 : c ≠ 10) (h2 : c ≠ 13) : only (c :: l) = false := by
  cases l <;> simp [only, h1, h2]
theorem only_no2 (c : UInt8) (l : List UInt8) (h : c ≠ 10) : only (13 :: c :: l) = false := by
  simp [only, h]
theorem only_one (c : UInt8) (h : c ≠ 10) : only [c] = false := by simp [only, h]

theorem whole_none : ∀ l : List UInt8, 10 ∉ l → whole l = []
  | [], _ => rfl
  | c :: l, h => by rw [whole, if_neg h]
theorem whole_line (r : List UInt8) : ∀ p : List UInt8, whole (p ++ 10 :: r) = p ++ 10 :: whole r
  | [] => by simp [whole]
  | c :: p => by
    have ih := whole_line r p
    simp only [List.cons_append]
    rw [whole, if_pos (by simp), ih]

/-- One line taken off the head. -/
theorem only_line (p r : List UInt8) (h : 10 ∉ p) : only (whole (p ++ 10 :: r)) = if p = [] ∨ p = [13] then only (whole r) else false := by
  rw [whole_line]
  match p, h with
  | [], _ => simp [only_ten]
  | [c], h =>
    have hc : c ≠ 10 := fun e => h (by simp [e])
    by_cases h13 : c = 13
    · subst h13
      simp [only_end]
    · simp [h13, only_no c _ hc h13]
  | c :: d :: q, h =>
    have hc : c ≠ 10 := fun e => h (by simp [e])
    have hd : d ≠ 10 := fun e => h (by simp [e])
    by_cases h13 : c = 13
    · subst h13
      simp [only_no2 d _ hd]
    · simp [only_no c _ hc h13]

theorem whole_append (b : List UInt8) {a : List UInt8} (h : Whole a) : whole (a ++ b) = a ++ whole b := by
  rcases h with rfl | ⟨p, rfl⟩
  · rfl
  · have := whole_line b p
    simpa using this
theorem whole_self {a : List UInt8} (h : Whole a) : whole a = a := by
  have := whole_append [] h
  simpa [whole] using this

theorem only_append (w : List UInt8) : ∀ p : List UInt8, only (p ++ 10 :: w) = (only (p ++ [10]) && only w)
  | [] => by rw [List.nil_append, List.nil_append, only_ten]; simp [only]
  | [c] => by
    simp only [List.cons_append, List.nil_append]
    simp only [only, only_ten]
    cases w <;> simp [only]
  | c :: d :: p => by
    have ih := only_append w (d :: p)
    simp only [List.cons_append] at ih ⊢
    simp only [only]
    rw [ih, Bool.and_assoc]
theorem only_join (w : List UInt8) {a : List UInt8} (h : Whole a) : only (a ++ w) = (only a && only w) := by
  rcases h with rfl | ⟨p, rfl⟩
  · simp [only]
  · have := only_append w p
    simpa using this

/-- 'buffered' of a OneLine feed with nothing cut. -/
def buf (l : List UInt8) : Bool := !only (whole l)

theorem buf_whole {a : List UInt8} (h : Whole a) : buf a = !only a := by rw [buf, whole_self h]
theorem buf_join (b : List UInt8) {a : List UInt8} (h : Whole a) : buf (a ++ b) = (buf a || buf b) := by
  rw [buf, whole_append b h, only_join _ h, buf_whole h, buf]
  simp
theorem buf_ends {a : List UInt8} (h : Whole a) : buf (a ++ [13, 10, 10]) = buf a := by
  rw [buf_join _ h, show buf [13, 10, 10] = false from by decide]
  simp
theorem buf_x {a : List UInt8} (h : Whole a) : buf (a ++ [120, 10]) = true := by
  rw [buf_join _ h, show buf [120, 10] = true from by decide]
  simp

/-- A line as isEmptyLine takes it: without its ending it is empty. -/
def bare (l : List UInt8) : Bool := (Lib.trimSuffix (Lib.trimSuffix l [10]) [13]).isEmpty

theorem trim_end (p : List UInt8) (c : UInt8) : Lib.trimSuffix (p ++ [c]) [c] = p := by
  have h : Lib.hasSuffix (p ++ [c]) [c] = true := by simp [Lib.hasSuffix, List.isSuffixOf_iff_suffix]
  rw [Lib.trimSuffix, if_pos h]
  simp
theorem bare_line (p : List UInt8) : bare (p ++ [10]) = decide (p = [] ∨ p = [13]) := by
  rw [bare, trim_end]
  rw [Bool.eq_iff_iff, decide_eq_true_iff]
  constructor
  · intro h
    rw [Lib.trimSuffix] at h
    split at h
    · rename_i hs
      right
      rw [Lib.hasSuffix, List.isSuffixOf_iff_suffix] at hs
      obtain ⟨q, rfl⟩ := hs
      simp at h
      simp [h]
    · left
      simpa using h
  · rintro (rfl | rfl) <;> decide
end Go.Proofs.Qxb6604702a.Plain
