/-
  WALKS: strings.HasPrefix (18), skipItem (17), ZZskipItem (12).
-/
import Derived.Test.Qxb6604202aWalkA
import Derived.Test.Qxb6604202aAny
import Derived.Lib.Strings
namespace Go.Proofs.Qxb6604202a
open Go.RowKit

set_option maxHeartbeats 1000000 in
theorem hasPrefix_any (s p : ByteArray) (w : World) :
    Calls Try.prog 18 #[.string s, .string p] w fun e w' => e = .returned (.bool (Lib.hasPrefix s.data.toList p.data.toList)) ∧ w' = w := by
  rw [← Lib.hasPrefix_of_take, ← Lib.size_eq, ← Lib.size_eq]
  go_enter Try.func18, Try.ntmps18
  go_wp2
  · rename_i h
    go_ret
    refine ⟨?_, rfl⟩
    show Ending.returned (Value.bool ((s.extract 0 p.size).toList == p.toList)) = _
    rw [Lib.extract_toList, Lib.toList_data]
    simp [h]
  · rename_i h
    go_ret
    refine ⟨?_, rfl⟩
    show Ending.returned (Value.bool false) = _
    simp [h]

/-- What skipItem answers, and how many bytes it takes. -/
def skip (l : List UInt8) : Bool × Nat :=
  if l.head? = some 34 then (match Plain.qend (l.drop 1) 1 with | some m => (true, m) | none => (false, 0))
  else (decide (0 < Plain.take1 l), Plain.take1 l)

theorem hasPrefix_quote (l : List UInt8) : Lib.hasPrefix l [34] = decide (l.head? = some 34) := by
  cases l with
  | nil => rfl
  | cons c l =>
    simp only [Lib.hasPrefix, List.isPrefixOf, List.head?_cons, Bool.and_true]
    by_cases h : c = 34
    · subst h; rfl
    · rw [show ((34 : UInt8) == c) = false from beq_eq_false_iff_ne.2 (Ne.symm h)]
      simp [h]

theorem bcell {W w1 : World} (hb : Below W.heap.size W w1) : (∀ b o, b < W.heap.size → w1.cell? ⟨b, o, none⟩ = W.cell? ⟨b, o, none⟩) ∧ (∀ b o, b < W.heap.size → w1.frozen? ⟨b, o, none⟩ = W.frozen? ⟨b, o, none⟩) :=
  ⟨fun b o h => hb.cell (p := ⟨b, o, none⟩) h, fun b o h => hb.frozen (p := ⟨b, o, none⟩) h⟩

theorem set_same {w : World} {a : Addr} {u : Value} (v : Value) (h : w.cell? a = some u) : (w.setCell a v).cell? a = some v := World.cell?_setCell_same' w a v (by rw [h]; rfl)

set_option maxHeartbeats 1000000 in
set_option maxRecDepth 100000 in
theorem skip_plain (s : ByteArray) (b : Nat) (w : World) (hs : s.size ≤ 1048576) (hb : b < w.heap.size) (hc : w.cell? ⟨b, 0, none⟩ = some (.string s)) (hf : w.frozen? ⟨b, 0, none⟩ = false)
    (hq : s.data.toList.head? ≠ some 34) :
    Calls Try.prog 17 #[.pointer (some ⟨b, 0, none⟩)] w fun e w' => e = .returned (.bool (skip s.data.toList).1) ∧ w'.cell? ⟨b, 0, none⟩ = some (.string (s.extract (skip s.data.toList).2 s.size)) ∧ Below b w w' := by
  have hp : Lib.hasPrefix s.data.toList [34] = false := by rw [hasPrefix_quote]; simpa using hq
  have hsk : skip s.data.toList = (decide (0 < Plain.take1 s.data.toList), Plain.take1 s.data.toList) := by rw [skip, if_neg hq]
  go_enter Try.func17, Try.ntmps17
  go_wp2_with (go_at_call 18; refine (hasPrefix_any _ _ _).mono ?_; rintro e w' ⟨rfl, hw⟩; rw [hw, hp]; clear hw)
  refine (any_delims s _ hs).mono ?_
  rintro e w1 ⟨rfl, hbl⟩
  obtain ⟨hcl, hfz⟩ := bcell hbl
  have hc1 : w1.cell? ⟨b, 0, none⟩ = some (.string s) := by rw [hcl b 0 hb]; exact hc
  have hf1 : w1.frozen? ⟨b, 0, none⟩ = false := by rw [hfz b 0 hb]; exact hf
  have hbl' : Below b w w1 := hbl.mono (Nat.le_of_lt hb)
  have hb1 : b < w1.heap.size := Nat.lt_of_lt_of_le hb hbl.size
  clear hcl hfz hbl hc hf hq hp
  obtain ⟨t1, _, _⟩ := Plain.take1_spec s.data.toList
  rw [size_len] at t1
  have HE : Hid (skip s.data.toList = (decide (0 < Plain.take1 s.data.toList), Plain.take1 s.data.toList)) := hsk
  have HT : Hid (Plain.take1 s.data.toList = if Lib.indexAny s.data.toList [44, 59, 32, 9] < 0 then s.size else (Lib.indexAny s.data.toList [44, 59, 32, 9]).toNat) := by
    show _ = _
    rw [Plain.take1, size_len]
  clear hsk
  generalize Lib.indexAny s.data.toList [44, 59, 32, 9] = I at *
  by_cases hI : I < 0
  · go_wp2
    go_ret
    have e1 : Plain.take1 s.data.toList = s.size := by rw [HT.out, if_pos hI]
    refine ⟨?_, ?_, hbl'.setCell (Nat.le_refl _) _⟩
    · rw [HE.out, e1]
      refine ret_bool ?_
      simp
    · rw [HE.out, e1]
      simpa using set_same _ hc1
  · have hI2 : I ≤ s.size := by have := HT.out; rw [if_neg hI] at this; omega
    have hI3 : 0 ≤ I := by omega
    go_wp2
    go_ret
    have e1 : Plain.take1 s.data.toList = I.toNat := by rw [HT.out, if_neg (by omega)]
    refine ⟨?_, ?_, hbl'.setCell (Nat.le_refl _) _⟩
    · rw [HE.out, e1]
      refine ret_bool ?_
      rw [Bool.eq_iff_iff]
      simp
    · rw [HE.out, e1]
      simpa using set_same _ hc1

theorem q_none (t : ByteArray) (k : Nat) (h : ¬ k < t.size) : Plain.qend (t.data.toList.drop k) k = none := by
  rw [List.drop_of_length_le (by rw [size_len]; omega)]
  rfl
theorem q_esc (t : ByteArray) (k : Nat) (h : k < t.size) (h1 : ((t[k].toNat : Int) == 92) = true) : Plain.qend (t.data.toList.drop k) k = Plain.qend (t.data.toList.drop (k + 2)) (k + 2) := by
  rw [drop_at t k h, is_of _ 92 (by decide) h1]
  by_cases h2 : k + 1 < t.size
  · rw [drop_at t (k + 1) h2]
    simp [Plain.qend]
  · rw [List.drop_of_length_le (by rw [size_len]; omega), List.drop_of_length_le (by rw [size_len]; omega)]
    simp [Plain.qend]
theorem q_hit (t : ByteArray) (k : Nat) (h : k < t.size) (h1 : ((t[k].toNat : Int) == 34) = true) : Plain.qend (t.data.toList.drop k) k = some (k + 1) := by
  rw [drop_at t k h, is_of _ 34 (by decide) h1]
  cases t.data.toList.drop (k + 1) <;> simp [Plain.qend]
theorem q_step (t : ByteArray) (k : Nat) (h : k < t.size) (h1 : ((t[k].toNat : Int) == 92) = false) (h2 : ((t[k].toNat : Int) == 34) = false) : Plain.qend (t.data.toList.drop k) k = Plain.qend (t.data.toList.drop (k + 1)) (k + 1) := by
  rw [drop_at t k h]
  have n1 : t[k] ≠ 92 := not_of _ 92 (by decide) h1
  have n2 : t[k] ≠ 34 := not_of _ 34 (by decide) h2
  cases e : t.data.toList.drop (k + 1) with
  | nil => simp only [Plain.qend]; rw [if_neg n1, if_neg n2]
  | cons d l => simp only [Plain.qend]; rw [if_neg n1, if_neg n2]

set_option maxHeartbeats 1000000 in
set_option maxRecDepth 100000 in
theorem skip_quoted (s : ByteArray) (b : Nat) (w : World) (hs : s.size ≤ 1048576) (hc : w.cell? ⟨b, 0, none⟩ = some (.string s)) (hf : w.frozen? ⟨b, 0, none⟩ = false)
    (hq : s.data.toList.head? = some 34) :
    Calls Try.prog 17 #[.pointer (some ⟨b, 0, none⟩)] w fun e w' => e = .returned (.bool (skip s.data.toList).1) ∧ w'.cell? ⟨b, 0, none⟩ = some (.string (s.extract (skip s.data.toList).2 s.size)) ∧ Below b w w' := by
  have hp : Lib.hasPrefix s.data.toList [34] = true := by rw [hasPrefix_quote]; simpa using hq
  have HE : Hid (skip s.data.toList = (match Plain.qend (s.data.toList.drop 1) 1 with | some m => (true, m) | none => (false, 0))) := by
    show _ = _
    rw [skip, if_pos hq]
  have h1s : 1 ≤ s.size := by
    rw [← size_len]
    cases e : s.data.toList with
    | nil => rw [e] at hq; simp at hq
    | cons _ _ => simp
  have HC : Hid (w.cell? ⟨b, 0, none⟩ = some (.string s)) := hc
  clear hq
  go_enter Try.func17, Try.ntmps17
  go_wp2_with (go_at_call 18; refine (hasPrefix_any _ _ _).mono ?_; rintro e w' ⟨rfl, hw⟩; rw [hw, hp]; clear hw)
  go_loop [4] (fun i => ∃ k : Nat, k ≤ s.size + 1 ∧ i = .int .i64 k ∧ Plain.qend (s.data.toList.drop k) k = Plain.qend (s.data.toList.drop 1) 1) (fun i => s.size + 2 - (intOf i).toNat)
  case atStart => exact ⟨1, by omega, rfl, rfl⟩
  case round =>
    obtain ⟨k, hk, rfl, hu⟩ := hrel
    have HU : Hid (Plain.qend (s.data.toList.drop k) k = Plain.qend (s.data.toList.drop 1) 1) := hu
    clear hu
    by_cases hlt : k < s.size
    · go_wp2
      · have g := q_esc s k hlt ‹_›
        go_round
        case rel => exact ⟨k + 2, by omega, by go_num, by rw [← g, HU.out]⟩
        case measure => simp [intOf]; omega
      · have g := q_hit s k hlt ‹_›
        go_ret
        refine ⟨?_, ?_, (Below.refl b w).setCell (p := ⟨b, 0, none⟩) (Nat.le_refl b) _⟩
        · rw [HE.out, ← HU.out, g]
          rfl
        · rw [HE.out, ← HU.out, g]
          simpa using set_same _ HC.out
      · have g := q_step s k hlt ‹_› ‹_›
        go_round
        case rel => exact ⟨k + 1, by omega, by go_num, by rw [← g, HU.out]⟩
        case measure => simp [intOf]; omega
    · go_wp2
      go_ret
      refine ⟨?_, ?_, Below.refl _ _⟩
      · rw [HE.out, ← HU.out, q_none s k hlt]
        rfl
      · rw [HE.out, ← HU.out, q_none s k hlt, HC.out]
        simp

theorem skip17 (s : ByteArray) (b : Nat) (w : World) (hs : s.size ≤ 1048576) (hb : b < w.heap.size) (hc : w.cell? ⟨b, 0, none⟩ = some (.string s)) (hf : w.frozen? ⟨b, 0, none⟩ = false) :
    Calls Try.prog 17 #[.pointer (some ⟨b, 0, none⟩)] w fun e w' => e = .returned (.bool (skip s.data.toList).1) ∧ w'.cell? ⟨b, 0, none⟩ = some (.string (s.extract (skip s.data.toList).2 s.size)) ∧ Below b w w' := by
  by_cases hq : s.data.toList.head? = some 34
  · exact skip_quoted s b w hs hc hf hq
  · exact skip_plain s b w hs hb hc hf hq

theorem skip_any (s : ByteArray) (b : Nat) (w : World) (hs : s.size ≤ 1048576) (hb : b < w.heap.size) (hc : w.cell? ⟨b, 0, none⟩ = some (.string s)) (hf : w.frozen? ⟨b, 0, none⟩ = false) :
    Calls Try.prog 12 #[.pointer (some ⟨b, 0, none⟩)] w fun e w' => e = .returned (.bool (skip s.data.toList).1) ∧ w'.cell? ⟨b, 0, none⟩ = some (.string (s.extract (skip s.data.toList).2 s.size)) ∧ Below b w w' := by
  go_enter Try.func12, Try.ntmps12
  go_wp2_with (go_at_call 17; refine (skip17 s b _ hs hb hc hf).mono ?_; rintro e w' ⟨rfl, hw⟩)
  go_ret
  exact ⟨rfl, hw⟩
end Go.Proofs.Qxb6604202a
