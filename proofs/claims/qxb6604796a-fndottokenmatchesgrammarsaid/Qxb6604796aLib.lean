/-
  THE LIBRARY's HasPrefix (38), IndexByte (39) and Index (40), as dotToken calls them.
-/
import Derived.Test.Qxb6604796aLeaf
namespace Go.Proofs.Qxb6604796a
open Go.RowKit

def nums (l : List UInt8) : List Int := l.map fun c => (c.toNat : Int)
theorem bytesOf_nums (l : List UInt8) : Lib.bytesOf (nums l) = l := by
  unfold Lib.bytesOf nums
  rw [List.map_map]
  conv => rhs; rw [← List.map_id l]
  apply List.map_congr_left
  intro c _
  simp
theorem nums_len (l : List UInt8) : (nums l).length = l.length := by simp [nums]
theorem nums_at (l : List UInt8) (i : Nat) (h : i < l.length) : (nums l).getD i 0 = (l[i].toNat : Int) := by
  simp [nums, List.getD, List.getElem?_eq_getElem h]
theorem nums_range (l : List UInt8) : ∀ x ∈ nums l, 0 ≤ x ∧ x < 256 := by
  intro x hx
  simp [nums] at hx
  obtain ⟨c, _, rfl⟩ := hx
  have := c.toNat_lt
  omega

theorem cells_nums {w : World} {b o : Nat} {s : ByteArray} (hb : Lib.Bytes w b o s) : ∀ i, i < s.size → w.cell? ⟨b, o + i, none⟩ = some (.int .u8 ((nums s.data.toList).getD i 0)) := fun i hi => by
  rw [nums_at _ _ (by rw [size_len]; exact hi)]
  exact hb i hi

/-- Two bytes in a row of the call's own. -/
def Two (w : World) (H : Nat) (p q : UInt8) : Prop := w.cell? ⟨H, 0, none⟩ = some (.int .u8 (p.toNat : Int)) ∧ w.cell? ⟨H, 1, none⟩ = some (.int .u8 (q.toNat : Int))

theorem two_cells {w : World} {H : Nat} {p q : UInt8} (h : Two w H p q) : ∀ i, i < 2 → w.cell? ⟨H, 0 + i, none⟩ = some (.int .u8 ((nums [p, q]).getD i 0)) := fun i hi => by
  match i, hi with
  | 0, _ => exact h.1
  | 1, _ => exact h.2

theorem prefix2 (b c H : Nat) (s : ByteArray) (p q : UInt8) (w : World) (hc : s.size ≤ c) (hb : Lib.Bytes w b 0 s) (h2 : Two w H p q) :
    Calls Try.prog 38 #[.slice (some ⟨b, 0, none⟩) s.size c, .slice (some ⟨H, 0, none⟩) 2 2] w fun e w' => e = .returned (.bool (Lib.hasPrefix s.data.toList [p, q])) ∧ w' = w := by
  have h := Try.bytes_HasPrefix b 0 s.size c H 0 2 2 (nums s.data.toList) (nums [p, q]) w (by rw [nums_len, size_len]) rfl hc (cells_nums hb) (two_cells h2)
  rw [bytesOf_nums, bytesOf_nums] at h
  exact h

theorem idx10 (b c : Nat) (s : ByteArray) (w : World) (hb : Lib.Bytes w b 0 s) :
    Calls Try.prog 39 #[.slice (some ⟨b, 0, none⟩) s.size c, .int .u8 10] w fun e w' => e = .returned (.int .i64 (Lib.indexByte s.data.toList 10)) ∧ w' = w :=
  Try.bytes_IndexByte_bytes b 0 c s 10 w hb

theorem index_bc : ∀ (l : List UInt8) (i : Nat), Lib.index l [42, 47] = match Plain.bc l i with | none => -1 | some m => (m : Int) - i
  | [], i => rfl
  | [c], i => by
    simp [Lib.index, Plain.bc, List.isPrefixOf]
  | c :: d :: l, i => by
    have ih := index_bc (d :: l) (i + 1)
    rw [Lib.index, Plain.bc]
    by_cases h : c = 42 ∧ d = 47
    · obtain ⟨rfl, rfl⟩ := h
      simp [List.isPrefixOf]
    · have hp : ([42, 47] : List UInt8).isPrefixOf (c :: d :: l) = false := by
        cases e : ([42, 47] : List UInt8).isPrefixOf (c :: d :: l) with
        | false => rfl
        | true =>
          exfalso
          apply h
          simp [List.isPrefixOf] at e
          exact ⟨e.1.symm, e.2.symm⟩
      rw [hp, if_neg h, ih]
      cases hb : Plain.bc (d :: l) (i + 1) with
      | none => simp
      | some m =>
        have hbd := Plain.bc_bd _ _ _ hb
        have hne : ((m : Int) - ((i + 1 : Nat) : Int) == -1) = false := beq_eq_false_iff_ne.2 (by omega)
        simp only [Bool.false_eq_true, if_false, hne]
        omega

theorem block_at (b c H : Nat) (s : ByteArray) (m : Int) (w : World) (hs : s.size ≤ 1048576) (h2 : 2 ≤ s.size) (hc : s.size - 2 ≤ c) (hb : Lib.Bytes w b 0 s) (ht : Two w H 42 47) (hm : w.cell? ⟨0, 0, none⟩ = some (.int .i64 m)) :
    Calls Try.prog 40 #[.slice (some ⟨b, 2, none⟩) (s.size - 2) c, .slice (some ⟨H, 0, none⟩) 2 2] w fun e w' => e = .returned (.int .i64 (Lib.index (s.data.toList.drop 2) [42, 47])) ∧ ∃ q, w' = w.drewN q := by
  have hlen : (s.data.toList.drop 2).length = s.size - 2 := by rw [List.length_drop, size_len]
  have h := Try.bytes_Index_at ⟨b, 2, none⟩ ⟨H, 0, none⟩ (s.size - 2) c 2 2 (nums (s.data.toList.drop 2)) (nums [42, 47]) m w (by rw [nums_len, hlen]) rfl (nums_range _) (nums_range _) (fun i hi => by
      rw [Lib.add_plain' b 2 i]
      have hi' : 2 + i < s.size := by omega
      have := hb (2 + i) hi'
      rw [Nat.zero_add] at this
      rw [this, nums_at _ _ (by omega)]
      simp
      rfl) (fun i hi => by
      rw [Lib.add_plain' H 0 i]
      exact two_cells ht i hi) hc (by omega) (by omega) hm
  rw [bytesOf_nums, bytesOf_nums] at h
  exact h
theorem block_none (x y : Addr) (c : Nat) (w : World) :
    Calls Try.prog 40 #[.slice (some x) 0 c, .slice (some y) 2 2] w fun e w' => e = .returned (.int .i64 (-1)) ∧ w' = w :=
  Try.bytes_Index_longer (some x) (some y) 0 c 2 2 w (by omega) (by omega) (by omega)

theorem has2 (s : ByteArray) (p q : UInt8) : Lib.hasPrefix s.data.toList [p, q] = decide (s.data.toList.head? = some p ∧ (s.data.toList.drop 1).head? = some q) := by
  match s.data.toList with
  | [] => rfl
  | [c] => simp [Lib.hasPrefix, List.isPrefixOf]
  | c :: d :: l =>
    rw [Bool.eq_iff_iff]
    simp only [Lib.hasPrefix, List.isPrefixOf, Bool.and_eq_true, beq_iff_eq, decide_eq_true_eq, List.head?_cons, Option.some.injEq, List.drop_succ_cons, List.drop_zero, and_true]
    constructor <;> rintro ⟨h1, h2⟩ <;> exact ⟨h1.symm, h2.symm⟩
end Go.Proofs.Qxb6604796a
