/-
  WALKS, the leaves: zzBytes (11), zzIsItemDelim (13), zzQuotedUnits (14).
-/
import Derived.Test.Qxb6604202aRows
import Derived.Test.Qxb6604202aPlain
import Derived.WalkKit
import Derived.Lib.Walk
import Derived.Below
namespace Go.Proofs.Qxb6604202a
open Go.RowKit

theorem ret_bool {a b : Bool} (h : a = b) : Ending.returned (.bool a) = .returned (.bool b) := by rw [h]

theorem bytes_no (s : ByteArray) (w : World) (hs : 1048576 < s.size) :
    Calls Try.prog 11 #[.string s] w fun e w' => e = .returned (.bool false) ∧ w' = w := by
  have h1 : (1048576 : Int) < (s.size : Int) := by omega
  go_enter Try.func11, Try.ntmps11
  go_wp2
  go_ret
  exact ⟨rfl, rfl⟩

theorem bytes_yes (s : ByteArray) (w : World) (hs : s.size ≤ 1048576) :
    Calls Try.prog 11 #[.string s] w fun e w' => e = .returned (.bool true) ∧ w' = w := by
  have h1 : ¬ (1048576 : Int) < (s.size : Int) := by omega
  go_enter Try.func11, Try.ntmps11
  go_wp2
  go_ret
  exact ⟨rfl, rfl⟩

theorem byte_eq (c d : UInt8) : (c == d) = ((c.toNat : Int) == (d.toNat : Int)) := by
  rw [Bool.eq_iff_iff, beq_iff_eq, beq_iff_eq, ← UInt8.toNat_inj]
  omega

theorem delim_eq (c : UInt8) : Plain.delim c = ((c.toNat : Int) == 44 || (c.toNat : Int) == 59 || (c.toNat : Int) == 32 || (c.toNat : Int) == 9) := by
  have h := byte_eq c
  simp only [Plain.delim, List.contains, List.elem, h]
  generalize (c.toNat : Int) = n
  show (match n == 44 with | true => true | false => match n == 59 with | true => true | false => match n == 32 with | true => true | false => match n == 9 with | true => true | false => false) = _
  cases n == 44 <;> cases n == 59 <;> cases n == 32 <;> cases n == 9 <;> rfl

set_option maxHeartbeats 400000 in
theorem delim_any (c : UInt8) (w : World) :
    Calls Try.prog 13 #[.int .u8 c.toNat] w fun e w' => e = .returned (.bool (Plain.delim c)) ∧ w' = w := by
  go_enter Try.func13, Try.ntmps13
  go_wp2
  all_goals go_ret
  all_goals exact ⟨ret_bool (by rw [delim_eq]; first | done | simp [*]), rfl⟩

/-- A byte of a string, and the rest of it behind. -/
theorem drop_at (t : ByteArray) (k : Nat) (h : k < t.size) : t.data.toList.drop k = t[k] :: t.data.toList.drop (k + 1) := by
  rw [List.drop_eq_getElem_cons (by simpa using h)]
  rfl

theorem size_len (t : ByteArray) : t.data.toList.length = t.size := by simp

theorem is_of (c : UInt8) (n : Nat) (hn : n < 256) (h : ((c.toNat : Int) == n) = true) : c = UInt8.ofNat n := by
  rw [beq_iff_eq] at h
  rw [← UInt8.toNat_inj, UInt8.toNat_ofNat']
  omega
theorem not_of (c : UInt8) (n : Nat) (hn : n < 256) (h : ((c.toNat : Int) == n) = false) : c ≠ UInt8.ofNat n := by
  rw [beq_eq_false_iff_ne] at h
  intro e
  apply h
  rw [e, UInt8.toNat_ofNat']
  omega

theorem u_quote (o : Bool) (t : ByteArray) (k : Nat) (h : k < t.size) (h1 : ((t[k].toNat : Int) == 34) = true) : Plain.units o (t.data.toList.drop k) = false := by
  rw [drop_at t k h, is_of _ 34 (by decide) h1]
  cases t.data.toList.drop (k + 1) <;> simp [Plain.units]
theorem u_last (o : Bool) (t : ByteArray) (k : Nat) (h : k < t.size) (h1 : ((t[k].toNat : Int) == 92) = true) (h2 : ((k : Int) + 1 == t.size) = true) : Plain.units o (t.data.toList.drop k) = o := by
  rw [beq_iff_eq] at h2
  rw [drop_at t k h, is_of _ 92 (by decide) h1, List.drop_of_length_le (by rw [size_len]; omega)]
  simp [Plain.units]
theorem u_esc (o : Bool) (t : ByteArray) (k : Nat) (h : k < t.size) (h1 : ((t[k].toNat : Int) == 92) = true) (h2 : ((k : Int) + 1 == t.size) = false) : k + 2 ≤ t.size ∧ Plain.units o (t.data.toList.drop (k + 2)) = Plain.units o (t.data.toList.drop k) := by
  rw [beq_eq_false_iff_ne] at h2
  have hk : k + 1 < t.size := by omega
  refine ⟨by omega, ?_⟩
  rw [drop_at t k h, is_of _ 92 (by decide) h1, drop_at t (k + 1) hk]
  simp [Plain.units]
theorem u_step (o : Bool) (t : ByteArray) (k : Nat) (h : k < t.size) (h1 : ((t[k].toNat : Int) == 34) = false) (h2 : ((t[k].toNat : Int) == 92) = false) : Plain.units o (t.data.toList.drop (k + 1)) = Plain.units o (t.data.toList.drop k) := by
  rw [drop_at t k h, Plain.units_cons_plain o _ _ (not_of _ 34 (by decide) h1) (not_of _ 92 (by decide) h2)]

set_option maxHeartbeats 400000 in
theorem units_any (t : ByteArray) (o : Bool) (w : World) (ht : t.size ≤ 1048576) :
    Calls Try.prog 14 #[.string t, .bool o] w fun e w' => e = .returned (.bool (Plain.units o t.data.toList)) ∧ w' = w := by
  go_enter Try.func14, Try.ntmps14
  go_wp2
  go_loop [5] (fun i => ∃ k : Nat, k ≤ t.size ∧ i = .int .i64 k ∧ Plain.units o (t.data.toList.drop k) = Plain.units o t.data.toList) (fun i => t.size - (intOf i).toNat)
  case atStart => exact ⟨0, Nat.zero_le _, rfl, rfl⟩
  case round =>
    obtain ⟨k, hk, rfl, hu⟩ := hrel
    have HU : Hid (Plain.units o (t.data.toList.drop k) = Plain.units o t.data.toList) := hu
    clear hu
    by_cases hlt : k < t.size
    · go_wp2
      · go_ret
        exact ⟨ret_bool (by rw [← HU.out, u_quote o t k hlt ‹_›]), rfl⟩
      · go_ret
        exact ⟨ret_bool (by rw [← HU.out, u_last o t k hlt ‹_› ‹_›]), rfl⟩
      · obtain ⟨g1, g2⟩ := u_esc o t k hlt ‹_› ‹_›
        go_round
        case rel => exact ⟨k + 2, g1, by go_num, by rw [g2, HU.out]⟩
        case measure => simp [intOf]; omega
      · have g2 := u_step o t k hlt ‹_› ‹_›
        go_round
        case rel => exact ⟨k + 1, by omega, by go_num, by rw [g2, HU.out]⟩
        case measure => simp [intOf]; omega
    · go_wp2
      go_ret
      exact ⟨ret_bool (by rw [← HU.out, List.drop_of_length_le (by rw [size_len]; omega)]; rfl), rfl⟩
end Go.Proofs.Qxb6604202a
