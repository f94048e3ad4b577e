/-
  WALKS, the leaves.
-/
import Derived.Test.Qxb6604702aRows
import Derived.Test.Qxb6604702aPlain
import Derived.Test.Qxb6604702aShelf
import Derived.WalkKit
import Derived.Lib.Walk
import Derived.Lib.Strings
import Derived.Lib.Slices
import Derived.Deep.LoopGhost
import Derived.Below
namespace Go.Proofs.Qxb6604702a
open Go.RowKit

theorem ret_bool {a b : Bool} (h : a = b) : Ending.returned (.bool a) = .returned (.bool b) := by rw [h]
theorem size_len (t : ByteArray) : t.data.toList.length = t.size := by simp

set_option maxHeartbeats 1000000 in
theorem trimSuffix_any (s p : ByteArray) (w : World) (hs : s.size ≤ 9223372036854775807) :
    Calls Try.prog 44 #[.string s, .string p] w fun e w' => e = .returned (.string ⟨(Lib.trimSuffix s.data.toList p.data.toList).toArray⟩) ∧ w' = w := by
  have hlo : p.size ≤ s.size → ((s.size : Int) - (p.size : Int) + 9223372036854775808) % 18446744073709551616 - 9223372036854775808 = ((s.size - p.size : Nat) : Int) := fun _ => by omega
  go_enter Try.func44, Try.ntmps44
  go_wp2
  · have h1 : p.size ≤ s.size := by assumption
    have h2 : ((s.extract (s.size - p.size) s.size).toList == p.toList) = true := by assumption
    go_ret
    refine ⟨?_, rfl⟩
    rw [Lib.trimSuffix_hit s p h1 h2]
    rfl
  · have h2 : ((s.extract (s.size - p.size) s.size).toList == p.toList) = false := by assumption
    go_ret
    refine ⟨?_, rfl⟩
    rw [Lib.trimSuffix_miss s p (by rw [h2]; simp)]
    rfl
  · have h1 : ¬ p.size ≤ s.size := by assumption
    go_ret
    refine ⟨?_, rfl⟩
    rw [Lib.trimSuffix_miss s p (by simp [h1])]
    rfl

set_option maxHeartbeats 1000000 in
theorem cutSuffix_any (s p : ByteArray) (w : World) (hs : s.size ≤ 9223372036854775807) :
    Calls Try.prog 43 #[.string s, .string p] w fun e w' => e = .returned (.tuple #[.string ⟨(Lib.trimSuffix s.data.toList p.data.toList).toArray⟩, .bool (Lib.hasSuffix s.data.toList p.data.toList)]) ∧ w' = w := by
  have hlo : p.size ≤ s.size → ((s.size : Int) - (p.size : Int) + 9223372036854775808) % 18446744073709551616 - 9223372036854775808 = ((s.size - p.size : Nat) : Int) := fun _ => by omega
  go_enter Try.func43, Try.ntmps43
  go_wp2
  · have h2 : (!((s.extract (s.size - p.size) s.size).toList == p.toList)) = true := by assumption
    have h3 : (decide (p.size ≤ s.size) && ((s.extract (s.size - p.size) s.size).toList == p.toList)) = false := by
      have : ((s.extract (s.size - p.size) s.size).toList == p.toList) = false := by simpa using h2
      rw [this]
      simp
    go_ret2
    refine ⟨?_, rfl⟩
    rw [Lib.trimSuffix_miss s p h3, ← Lib.hasSuffix_raw, h3]
    rfl
  · have h1 : p.size ≤ s.size := by assumption
    have h2 : (!((s.extract (s.size - p.size) s.size).toList == p.toList)) = false := by assumption
    have h2' : ((s.extract (s.size - p.size) s.size).toList == p.toList) = true := by simpa using h2
    go_ret2
    refine ⟨?_, rfl⟩
    rw [Lib.trimSuffix_hit s p h1 h2', ← Lib.hasSuffix_raw, h2', decide_eq_true h1]
    rfl
  · have h1 : ¬ p.size ≤ s.size := by assumption
    have h3 : (decide (p.size ≤ s.size) && ((s.extract (s.size - p.size) s.size).toList == p.toList)) = false := by simp [h1]
    go_ret2
    refine ⟨?_, rfl⟩
    rw [Lib.trimSuffix_miss s p h3, ← Lib.hasSuffix_raw, h3]
    rfl

theorem trim_le (l p : List UInt8) : (Lib.trimSuffix l p).length ≤ l.length := by
  unfold Lib.trimSuffix
  split
  · simp
  · exact Nat.le_refl _

set_option maxHeartbeats 400000 in
theorem split_any (s : ByteArray) (w : World) (hs : s.size ≤ 1048579) :
    Calls Try.prog 40 #[.string s] w fun e w' => ∃ b, e = .returned (.tuple #[.string ⟨(Lib.trimSuffix (Lib.trimSuffix s.data.toList [10]) [13]).toArray⟩, .bool b]) ∧ w' = w := by
  have ht := trim_le s.data.toList [10]
  rw [size_len] at ht
  go_enter Try.func40, Try.ntmps40
  go_wp2_with fail
  refine (cutSuffix_any _ _ _ (by omega)).mono ?_
  rintro e w' ⟨rfl, hw⟩
  rw [hw]
  clear hw
  go_wp2_with fail
  refine (trimSuffix_any _ _ _ (by show (Lib.trimSuffix s.data.toList [10]).toArray.size ≤ _; rw [List.size_toArray]; omega)).mono ?_
  rintro e w' ⟨rfl, hw⟩
  rw [hw]
  clear hw
  go_wp2
  go_ret2
  exact ⟨_, rfl, rfl⟩

set_option maxHeartbeats 400000 in
theorem empty_any (s : ByteArray) (w : World) (hs : s.size ≤ 1048579) :
    Calls Try.prog 34 #[.string s] w fun e w' => e = .returned (.bool (Plain.bare s.data.toList)) ∧ w' = w := by
  obtain ⟨L, hL⟩ : ∃ L, Lib.trimSuffix (Lib.trimSuffix s.data.toList [10]) [13] = L := ⟨_, rfl⟩
  have HL : Hid (Plain.bare s.data.toList = L.isEmpty) := by
    show _ = _
    rw [Plain.bare, hL]
  go_enter Try.func34, Try.ntmps34
  go_wp2_with fail
  refine (split_any _ _ hs).mono ?_
  rintro e w' ⟨b, rfl, hw⟩
  rw [hw, hL]
  clear hw hL
  go_wp2
  go_ret
  exact ⟨ret_bool (by rw [HL.out]; cases L <;> simp <;> omega), rfl⟩

theorem drop_at (t : ByteArray) (k : Nat) (h : k < t.size) : t.data.toList.drop k = t[k] :: t.data.toList.drop (k + 1) := by
  rw [List.drop_eq_getElem_cons (by simpa using h)]
  rfl
theorem is_of (c : UInt8) (n : Nat) (hn : n < 256) (h : ((c.toNat : Int) == n) = true) : c = UInt8.ofNat n := by
  rw [beq_iff_eq] at h
  rw [← UInt8.toNat_inj, UInt8.toNat_ofNat']
  omega
theorem not_of (c : UInt8) (n : Nat) (hn : n < 256) (h : ((c.toNat : Int) == n) = false) : c ≠ UInt8.ofNat n := by
  rw [beq_eq_false_iff_ne] at h
  intro e
  apply h
  rw [e, UInt8.toNat_ofNat']
  omega

theorem o_ten (t : ByteArray) (k : Nat) (h : k < t.size) (h1 : ((t[k].toNat : Int) == 10) = true) : Plain.only (t.data.toList.drop k) = Plain.only (t.data.toList.drop (k + 1)) := by
  rw [drop_at t k h, is_of _ 10 (by decide) h1]
  exact Plain.only_ten _
theorem o_end (t : ByteArray) (k : Nat) (h : k < t.size) (h1 : ((t[k].toNat : Int) == 13) = true) (h2 : k + 1 < t.size) (h3 : ((t[k + 1].toNat : Int) == 10) = true) : Plain.only (t.data.toList.drop k) = Plain.only (t.data.toList.drop (k + 1)) := by
  rw [drop_at t k h, is_of _ 13 (by decide) h1, drop_at t (k + 1) h2, is_of _ 10 (by decide) h3]
  exact (Plain.only_end _).trans (Plain.only_ten _).symm
theorem o_no (t : ByteArray) (k : Nat) (h : k < t.size) (h1 : ((t[k].toNat : Int) == 10) = false) (h2 : ((t[k].toNat : Int) == 13) = false) : Plain.only (t.data.toList.drop k) = false := by
  rw [drop_at t k h]
  exact Plain.only_no _ _ (not_of _ 10 (by decide) h1) (not_of _ 13 (by decide) h2)
theorem o_no2 (t : ByteArray) (k : Nat) (h : k < t.size) (h1 : ((t[k].toNat : Int) == 13) = true) (h2 : k + 1 < t.size) (h3 : ((t[k + 1].toNat : Int) == 10) = false) : Plain.only (t.data.toList.drop k) = false := by
  rw [drop_at t k h, is_of _ 13 (by decide) h1, drop_at t (k + 1) h2]
  exact Plain.only_no2 _ _ (not_of _ 10 (by decide) h3)
theorem o_no3 (t : ByteArray) (k : Nat) (h : k < t.size) (h1 : ((t[k].toNat : Int) == 10) = false) (h2 : ¬ k + 1 < t.size) : Plain.only (t.data.toList.drop k) = false := by
  rw [drop_at t k h, List.drop_of_length_le (by rw [size_len]; omega)]
  exact Plain.only_one _ (not_of _ 10 (by decide) h1)

set_option maxHeartbeats 400000 in
theorem only_any (s : ByteArray) (w : World) (hs : s.size ≤ 1048576) :
    Calls Try.prog 19 #[.string s] w fun e w' => e = .returned (.bool (Plain.only s.data.toList)) ∧ w' = w := by
  go_enter Try.func19, Try.ntmps19
  go_wp2
  go_loop [3] (fun i => ∃ k : Nat, k ≤ s.size ∧ i = .int .i64 k ∧ Plain.only (s.data.toList.drop k) = Plain.only s.data.toList) (fun i => s.size - (intOf i).toNat)
  case atStart => exact ⟨0, Nat.zero_le _, rfl, rfl⟩
  case round =>
    obtain ⟨k, hk, rfl, hu⟩ := hrel
    have HU : Hid (Plain.only (s.data.toList.drop k) = Plain.only s.data.toList) := hu
    clear hu
    by_cases hlt : k < s.size
    · by_cases hk1 : k + 1 < s.size
      · go_wp2
        · have g := o_ten s k hlt ‹_›
          go_round
          case rel => exact ⟨k + 1, by omega, by go_num, by rw [← g, HU.out]⟩
          case measure => simp [intOf]; omega
        · have g := o_end s k hlt (beq_iff_eq.2 ‹(s[k].toNat : Int) = 13›) hk1 ‹_›
          go_round
          case rel => exact ⟨k + 1, by omega, by go_num, by rw [← g, HU.out]⟩
          case measure => simp [intOf]; omega
        · have g := o_no2 s k hlt (beq_iff_eq.2 ‹(s[k].toNat : Int) = 13›) hk1 ‹_›
          go_ret
          exact ⟨ret_bool (by rw [← HU.out, g]), rfl⟩
        · have g := o_no s k hlt ‹_› (beq_eq_false_iff_ne.2 ‹¬ (s[k].toNat : Int) = 13›)
          go_ret
          exact ⟨ret_bool (by rw [← HU.out, g]), rfl⟩
      · go_wp2
        · have g := o_ten s k hlt ‹_›
          go_round
          case rel => exact ⟨k + 1, by omega, by go_num, by rw [← g, HU.out]⟩
          case measure => simp [intOf]; omega
        · have g := o_no3 s k hlt ‹_› hk1
          go_ret
          exact ⟨ret_bool (by rw [← HU.out, g]), rfl⟩
        · have g := o_no3 s k hlt ‹_› hk1
          go_ret
          exact ⟨ret_bool (by rw [← HU.out, g]), rfl⟩
    · go_wp2
      go_ret
      exact ⟨ret_bool (by rw [← HU.out, List.drop_of_length_le (by rw [size_len]; omega)]; rfl), rfl⟩

theorem bytes_yes (x y : Bool) (s t : ByteArray) (w : World) (hs : s.size + t.size ≤ 1048576) :
    Calls Try.prog 17 #[.bool x, .string s, .string t, .bool y] w fun e w' => e = .returned (.bool true) ∧ w' = w := by
  have g1 : ¬ (1048576 : Int) < (s.size : Int) := by omega
  have g2 : ¬ (1048576 : Int) < (t.size : Int) := by omega
  have g3 : ¬ (1048576 : Int) < (s.size : Int) + (t.size : Int) := by omega
  go_enter Try.func17, Try.ntmps17
  go_wp2
  go_ret
  exact ⟨rfl, rfl⟩
theorem bytes_no (x y : Bool) (s t : ByteArray) (w : World) (h1 : s.size ≤ maxLen) (h2 : t.size ≤ maxLen) (hs : ¬ s.size + t.size ≤ 1048576) :
    Calls Try.prog 17 #[.bool x, .string s, .string t, .bool y] w fun e w' => e = .returned (.bool false) ∧ w' = w := by
  unfold maxLen at h1 h2
  go_enter Try.func17, Try.ntmps17
  go_wp2
  all_goals go_ret
  all_goals first | exact ⟨rfl, rfl⟩ | (exfalso; omega)
theorem bytes2_yes (s t : ByteArray) (w : World) (hs : s.size + t.size ≤ 1048576) :
    Calls Try.prog 21 #[.string s, .string t] w fun e w' => e = .returned (.bool true) ∧ w' = w := by
  have g1 : ¬ (1048576 : Int) < (s.size : Int) := by omega
  have g2 : ¬ (1048576 : Int) < (t.size : Int) := by omega
  have g3 : ¬ (1048576 : Int) < (s.size : Int) + (t.size : Int) := by omega
  go_enter Try.func21, Try.ntmps21
  go_wp2
  go_ret
  exact ⟨rfl, rfl⟩
theorem bytes2_no (s t : ByteArray) (w : World) (h1 : s.size ≤ maxLen) (h2 : t.size ≤ maxLen) (hs : ¬ s.size + t.size ≤ 1048576) :
    Calls Try.prog 21 #[.string s, .string t] w fun e w' => e = .returned (.bool false) ∧ w' = w := by
  unfold maxLen at h1 h2
  go_enter Try.func21, Try.ntmps21
  go_wp2
  all_goals go_ret
  all_goals first | exact ⟨rfl, rfl⟩ | (exfalso; omega)
end Go.Proofs.Qxb6604702a
