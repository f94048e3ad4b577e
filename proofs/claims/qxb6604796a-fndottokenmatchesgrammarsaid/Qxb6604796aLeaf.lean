/-
  WALKS, the leaves: zzBytes (9, 12), isDOTLetter (41), zzIsIDStart (32), zzIsDigit (33), dotDigits (42); make, copy; the library's HasPrefix (38), IndexByte (39), Index (40).
-/
import Derived.Test.Qxb6604796aRows
import Derived.Test.Qxb6604796aPlain
import Derived.Test.Qxb6604796aShelf
import Derived.WalkKit
import Derived.Lib.Walk
import Derived.Lib.SlBytesRow
import Derived.Laws.MakeOwn
import Derived.Laws.CopyRow
import Derived.WalkSpells
import Derived.WalkSmall
import Derived.Deep.LoopGhost
import Derived.Below
namespace Go.Proofs.Qxb6604796a
open Go.RowKit
set_option linter.unusedSimpArgs false

theorem ret_bool {a b : Bool} (h : a = b) : Ending.returned (.bool a) = .returned (.bool b) := by rw [h]
theorem ret_int {k : IntKind} {a b : Int} (h : a = b) : Ending.returned (.int k a) = .returned (.int k b) := by rw [h]
theorem size_len (t : ByteArray) : t.data.toList.length = t.size := by simp
theorem get_list (s : ByteArray) (k : Nat) (h : k < s.size) : s.data.toList[k]? = some s[k] := by
  rw [List.getElem?_eq_getElem (by simpa using h)]
  rfl
theorem drop_at (t : ByteArray) (k : Nat) (h : k < t.size) : t.data.toList.drop k = t[k] :: t.data.toList.drop (k + 1) := by
  rw [List.drop_eq_getElem_cons (by simpa using h)]
  rfl
theorem is_of (c : UInt8) (n : Nat) (hn : n < 256) (h : ((c.toNat : Int) == n) = true) : c = UInt8.ofNat n := by
  rw [beq_iff_eq] at h
  rw [← UInt8.toNat_inj, UInt8.toNat_ofNat']
  omega
theorem not_of (c : UInt8) (n : Nat) (hn : n < 256) (h : ((c.toNat : Int) == n) = false) : c ≠ UInt8.ofNat n := by
  rw [beq_eq_false_iff_ne] at h
  intro e
  apply h
  rw [e, UInt8.toNat_ofNat']
  omega
theorem eq_yes (c : UInt8) (n : Nat) (hn : n < 256) (h : c = UInt8.ofNat n) : ((c.toNat : Int) == n) = true := by
  rw [beq_iff_eq, h, UInt8.toNat_ofNat']
  omega
theorem eq_no (c : UInt8) (n : Nat) (hn : n < 256) (h : c ≠ UInt8.ofNat n) : ((c.toNat : Int) == n) = false := by
  rw [beq_eq_false_iff_ne]
  intro e
  exact h (is_of c n hn (beq_iff_eq.2 e))

theorem bytes_no (a : Option Addr) (n c : Nat) (w : World) (hs : 1048576 < n) :
    Calls Try.prog 9 #[.slice a n c] w fun e w' => e = .returned (.bool false) ∧ w' = w := by
  have h1 : (1048576 : Int) < (n : Int) := by omega
  go_enter Try.func9, Try.ntmps9
  go_wp2
  go_ret
  exact ⟨rfl, rfl⟩
theorem bytes_yes (a : Option Addr) (n c : Nat) (w : World) (hs : n ≤ 1048576) :
    Calls Try.prog 9 #[.slice a n c] w fun e w' => e = .returned (.bool true) ∧ w' = w := by
  have h1 : ¬ (1048576 : Int) < (n : Int) := by omega
  go_enter Try.func9, Try.ntmps9
  go_wp2
  go_ret
  exact ⟨rfl, rfl⟩
theorem bytes2_no (a : Option Addr) (n c : Nat) (w : World) (hs : 1048576 < n) :
    Calls Try.prog 12 #[.slice a n c] w fun e w' => e = .returned (.bool false) ∧ w' = w := by
  have h1 : (1048576 : Int) < (n : Int) := by omega
  go_enter Try.func12, Try.ntmps12
  go_wp2
  go_ret
  exact ⟨rfl, rfl⟩
theorem bytes2_yes (a : Option Addr) (n c : Nat) (w : World) (hs : n ≤ 1048576) :
    Calls Try.prog 12 #[.slice a n c] w fun e w' => e = .returned (.bool true) ∧ w' = w := by
  have h1 : ¬ (1048576 : Int) < (n : Int) := by omega
  go_enter Try.func12, Try.ntmps12
  go_wp2
  go_ret
  exact ⟨rfl, rfl⟩

set_option maxHeartbeats 1000000 in
theorem letter_any (c : UInt8) (w : World) :
    Calls Try.prog 41 #[.int .u8 c.toNat] w fun e w' => e = .returned (.bool (Plain.letter c)) ∧ w' = w := by
  have hlt : c.toNat < 256 := c.toNat_lt
  have HL : Hid (Plain.letter c = decide ((97 ≤ c.toNat ∧ c.toNat ≤ 122) ∨ (65 ≤ c.toNat ∧ c.toNat ≤ 90) ∨ c.toNat = 95 ∨ 128 ≤ c.toNat)) := by
    show _ = _
    rw [Bool.eq_iff_iff]
    simp [Plain.letter, or_assoc]
  go_enter Try.func41, Try.ntmps41
  go_wp2
  all_goals go_ret
  all_goals refine ⟨ret_bool ?_, rfl⟩
  all_goals (rw [HL.out, Bool.eq_iff_iff]; simp only [Bool.or_eq_true, decide_eq_true_eq, beq_iff_eq, Bool.false_eq_true, true_iff, false_iff]; omega)

set_option maxHeartbeats 1000000 in
theorem idstart_any (c : UInt8) (w : World) :
    Calls Try.prog 32 #[.int .u8 c.toNat] w fun e w' => e = .returned (.bool (Plain.letter c)) ∧ w' = w := by
  have hlt : c.toNat < 256 := c.toNat_lt
  have HL : Hid (Plain.letter c = decide ((97 ≤ c.toNat ∧ c.toNat ≤ 122) ∨ (65 ≤ c.toNat ∧ c.toNat ≤ 90) ∨ c.toNat = 95 ∨ 128 ≤ c.toNat)) := by
    show _ = _
    rw [Bool.eq_iff_iff]
    simp [Plain.letter, or_assoc]
  go_enter Try.func32, Try.ntmps32
  go_wp2
  all_goals go_ret
  all_goals refine ⟨ret_bool ?_, rfl⟩
  all_goals (rw [HL.out, Bool.eq_iff_iff]; simp only [Bool.or_eq_true, decide_eq_true_eq, beq_iff_eq, Bool.false_eq_true, true_iff, false_iff]; omega)

set_option maxHeartbeats 1000000 in
theorem digit_any (c : UInt8) (w : World) :
    Calls Try.prog 33 #[.int .u8 c.toNat] w fun e w' => e = .returned (.bool (Plain.digit c)) ∧ w' = w := by
  have hlt : c.toNat < 256 := c.toNat_lt
  have HL : Hid (Plain.digit c = decide (48 ≤ c.toNat ∧ c.toNat ≤ 57)) := by
    show _ = _
    rw [Bool.eq_iff_iff]
    simp [Plain.digit]
  go_enter Try.func33, Try.ntmps33
  go_wp2
  all_goals go_ret
  all_goals refine ⟨ret_bool ?_, rfl⟩
  all_goals (rw [HL.out, Bool.eq_iff_iff]; simp only [Bool.or_eq_true, decide_eq_true_eq, beq_iff_eq, Bool.false_eq_true, true_iff, false_iff]; omega)

theorem digits_none (x : Addr) (c : Nat) (w : World) :
    Calls Try.prog 42 #[.slice (some x) 0 c] w fun e w' => e = .returned (.int .i64 0) ∧ w' = w := by
  go_enter Try.func42, Try.ntmps42
  go_wp2
  go_loop [3] (fun i => i = .int .i64 0) (fun _ => 0)
  case atStart => rfl
  case round =>
    subst hrel
    go_wp2
    go_ret
    exact ⟨rfl, rfl⟩

theorem r_hit (p : UInt8 → Bool) (s : ByteArray) (k : Nat) (h : k < s.size) (hp : p s[k] = true) : Plain.run p (s.data.toList.drop k) = Plain.run p (s.data.toList.drop (k + 1)) + 1 := by
  rw [drop_at s k h, Plain.run_hit _ _ _ hp]
theorem r_miss (p : UInt8 → Bool) (s : ByteArray) (k : Nat) (h : k < s.size) (hp : p s[k] = false) : Plain.run p (s.data.toList.drop k) = 0 := by
  rw [drop_at s k h, Plain.run_miss _ _ _ hp]
theorem r_end (p : UInt8 → Bool) (s : ByteArray) (k : Nat) (h : ¬ k < s.size) : Plain.run p (s.data.toList.drop k) = 0 := by
  rw [List.drop_of_length_le (by rw [size_len]; omega)]
  rfl
theorem digit_yes (c : UInt8) (h1 : 48 ≤ (c.toNat : Int)) (h2 : (c.toNat : Int) ≤ 57) : Plain.digit c = true := by
  simp [Plain.digit]; omega
theorem digit_lo (c : UInt8) (h1 : (c.toNat : Int) < 48) : Plain.digit c = false := by
  simp [Plain.digit]; omega
theorem digit_hi (c : UInt8) (h1 : 57 < (c.toNat : Int)) : Plain.digit c = false := by
  simp [Plain.digit]; omega

set_option maxHeartbeats 1000000 in
theorem digits_at (b c k : Nat) (s : ByteArray) (w : World) (hs : s.size ≤ 1048576) (hk : k ≤ s.size) (hb : Lib.Bytes w b 0 s) :
    Calls Try.prog 42 #[.slice (some ⟨b, k, none⟩) (s.size - k) c] w fun e w' => e = .returned (.int .i64 (Plain.run Plain.digit (s.data.toList.drop k))) ∧ w' = w := by
  have HB : Hid (Lib.Bytes w b 0 s) := hb
  obtain ⟨n, hn⟩ : ∃ n, s.size - k = n := ⟨_, rfl⟩
  rw [hn]
  have HN : Hid (s.size - k = n) := hn
  have hnk : n ≤ 1048576 := by omega
  clear hb hn
  go_enter Try.func42, Try.ntmps42
  go_wp2
  go_loop [3] (fun i => ∃ j : Nat, j ≤ n ∧ i = .int .i64 j ∧ Plain.run Plain.digit (s.data.toList.drop k) = j + Plain.run Plain.digit (s.data.toList.drop (k + j))) (fun i => n - (intOf i).toNat)
  case atStart => exact ⟨0, Nat.zero_le _, rfl, by simp⟩
  case round =>
    obtain ⟨j, hj, rfl, hu⟩ := hrel
    have HU : Hid (Plain.run Plain.digit (s.data.toList.drop k) = j + Plain.run Plain.digit (s.data.toList.drop (k + j))) := hu
    clear hu
    by_cases hlt : j < n
    · have hks : k + j < s.size := by have := HN.out; omega
      have hck : w.cell? ⟨b, k + j, none⟩ = some (.int .u8 (s[k + j].toNat : Int)) := by simpa using HB.out (k + j) hks
      go_wp2
      · have g := r_hit Plain.digit s (k + j) hks (digit_yes _ ‹_› ‹_›)
        go_round
        case rel => exact ⟨j + 1, by omega, by go_num, by rw [HU.out, g, ← Nat.add_assoc k j 1]; omega⟩
        case measure => simp [intOf]; omega
      · have g := r_miss Plain.digit s (k + j) hks (digit_hi _ ‹_›)
        go_ret
        exact ⟨ret_int (by rw [HU.out, g]; simp), rfl⟩
      · have g := r_miss Plain.digit s (k + j) hks (digit_lo _ ‹_›)
        go_ret
        exact ⟨ret_int (by rw [HU.out, g]; simp), rfl⟩
    · have g := r_end Plain.digit s (k + j) (by have := HN.out; omega)
      go_wp2
      go_ret
      exact ⟨ret_int (by rw [HU.out, g]; simp), rfl⟩

/-! ### Memory: a row of bytes, make, copy -/
def rowOf (l : List UInt8) : Array Value := (l.map fun c => Value.int .u8 c.toNat).toArray

theorem made_row (n : Nat) : madeCells (Value.int .u8 0).cells n = rowOf (List.replicate n 0) := by
  apply Array.ext
  · simp [madeCells, rowOf]
  · intro i h1 h2
    simp [madeCells, rowOf, Value.cells, Nat.mod_one]

theorem make_any (W : World) (l n : Nat) (hl : l ≤ n) (hn : n ≤ 1073741824) : (Instr.makeSlice 22 (.int .i64 l) (.int .i64 n)).run Try.prog W = .ok (.slice (some ⟨W.heap.size, 0, none⟩) l n) (W.alloc (.cells (rowOf (List.replicate n 0)) 5)) := by
  have hi : (Try.prog.info? 5).map (fun i => (i.zero, i.size, i.bytes)) = some (some (.int .u8 0), 1, 1) := by kernel_rfl
  cases h : Try.prog.info? 5 with
  | none => rw [h] at hi; simp at hi
  | some i =>
    rw [h] at hi
    simp at hi
    obtain ⟨h1, h2, h3⟩ := hi
    rw [run_make W 22 5 i (.int .u8 0) Try.underlying22 h h1 .i64 .i64 l n (by omega) (by omega) (by rw [h3]; omega) (by omega), h2, ← made_row]
    simp

theorem bytes_row (w : World) (s : ByteArray) : Lib.Bytes (w.alloc (.cells (rowOf s.data.toList) 5)) w.heap.size 0 s := by
  intro i hi
  rw [World.cell?_alloc_at _ _ _ _ rfl]
  simp only [rowOf, Nat.zero_add, List.getElem?_toArray, List.getElem?_map]
  rw [get_list s i hi]
  rfl

theorem setRow_alloc (w : World) (A B : Array Value) (t : TypeId) : (w.alloc (.cells A t)).setRow w.heap.size B = w.alloc (.cells B t) := by
  simp only [World.setRow, World.alloc]
  congr 1
  apply Array.ext_getElem?
  intro i
  rw [Array.getElem?_modify]
  by_cases h : w.heap.size = i
  · subst h; simp
  · rw [if_neg h]
    simp only [Array.getElem?_push]
    rw [if_neg (Ne.symm h), if_neg (Ne.symm h)]

theorem copy_any (b o c : Nat) (s : ByteArray) (w : World) (hb : Lib.Bytes w b o s) (hlt : b < w.heap.size) (ty : TypeId) :
    (Builtin.copy_ #[22, 22] ty #[.slice (some ⟨w.heap.size, 0, none⟩) s.size s.size, .slice (some ⟨b, o, none⟩) s.size c]).run Try.prog (w.alloc (.cells (rowOf (List.replicate s.size 0)) 5)) =
      .ok (.int .i64 s.size) (w.alloc (.cells (rowOf s.data.toList) 5)) := by
  have hs := size_len s
  rw [run_copy_row (P := Try.prog) (w.alloc (.cells (rowOf (List.replicate s.size 0)) 5)) 22 22 ty 5 w.heap.size 0 s.size s.size ⟨b, o, none⟩ s.size c (rowOf (List.replicate s.size 0)) 5 (s.data.toList.map fun c => Value.int .u8 c.toNat) Try.underlying22 (by kernel_rfl) ?_ ?_ ?_ ?_ ?_]
  · rw [setRow_alloc]
    congr 1
    · simp [goInt]
    · congr 2
      simp [rowOf]
  · exact heap_alloc_new w _
  · simp
  · intro j v hj
    rw [show (⟨b, o, none⟩ : Addr).add j = ⟨b, o + j, none⟩ from by simp [Addr.add]]
    rw [World.cell?_alloc_past _ _ _ hlt]
    rw [List.getElem?_map] at hj
    have hjl : j < s.size := by
      rcases Nat.lt_or_ge j s.size with h | h
      · exact h
      · rw [List.getElem?_eq_none (by omega)] at hj; simp at hj
    rw [get_list s j hjl] at hj
    simp at hj
    rw [← hj]
    exact hb j hjl
  · simp [rowOf]
  · intro v hv
    simp at hv
    obtain ⟨c, _, rfl⟩ := hv
    rfl
end Go.Proofs.Qxb6604796a
