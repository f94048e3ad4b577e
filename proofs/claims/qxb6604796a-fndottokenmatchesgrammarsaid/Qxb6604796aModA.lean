/-
  zzDotModel (11), branch by branch, but for the automaton.
-/
import Derived.Test.Qxb6604796aTokD
import Derived.Test.Qxb6604796aPlain2
namespace Go.Proofs.Qxb6604796a
open Go.RowKit
set_option linter.unusedVariables false
set_option linter.unusedSimpArgs false

theorem nl_yes (c : UInt8) (h : ((c.toNat : Int) != 10) = true) : Plain.notNl c = true := by
  rw [bne_iff_ne] at h
  simp only [Plain.notNl, decide_eq_true_eq]
  omega
theorem nl_no (c : UInt8) (h : ((c.toNat : Int) != 10) = false) : Plain.notNl c = false := by
  have h' : (c.toNat : Int) = 10 := by simpa using h
  simp only [Plain.notNl, decide_eq_false_iff_not]
  omega

set_option maxHeartbeats 1000000 in
set_option maxRecDepth 100000 in
theorem mod_line (b c : Nat) (s : ByteArray) (w : World) (hs : s.size ≤ 1048576) (h0 : 0 < s.size) (hb : Lib.Bytes w b 0 s) (h : s[0] = 35 ∨ (s[0] = 47 ∧ ∃ h1 : 1 < s.size, s[1] = 47)) (N : Nat) (hN : Plain.run Plain.notNl s.data.toList = N) :
    Calls Try.prog 11 #[.slice (some ⟨b, 0, none⟩) s.size c] w fun e w' => e = .returned (.tuple #[.int .i64 6, .int .i64 N]) ∧ w' = w := by
  have HB : Hid (Lib.Bytes w b 0 s) := hb
  have HN : Hid (Plain.run Plain.notNl s.data.toList = N) := hN
  obtain ⟨x, hx⟩ : ∃ x, s[0] = x := ⟨_, rfl⟩
  have hc0 : w.cell? ⟨b, 0, none⟩ = some (.int .u8 (x.toNat : Int)) := by have := hb 0 h0; rw [hx] at this; exact this
  rw [hx] at h
  have hcase : ((x.toNat : Int) == 35) = true ∨ (((x.toNat : Int) == 35) = false ∧ ((x.toNat : Int) == 47) = true ∧ (2 : Int) ≤ (s.size : Int) ∧ w.cell? ⟨b, 1, none⟩ = some (.int .u8 47)) := by
    rcases h with h | ⟨h, h1, h2⟩
    · exact .inl (eq_yes x 35 (by decide) h)
    · refine .inr ⟨eq_no x 35 (by decide) (by rw [h]; decide), eq_yes x 47 (by decide) h, by omega, ?_⟩
      have := hb 1 h1
      rw [h2] at this
      exact this
  clear hb hN hx h
  rcases hcase with h35 | ⟨h35, h47, h2, hc1⟩
  all_goals
    go_enter Try.func11, Try.ntmps11
    go_wp2_with fail
    go_loop [6] (fun i => ∃ k : Nat, k ≤ s.size ∧ i = .int .i64 k ∧ Plain.run Plain.notNl s.data.toList = k + Plain.run Plain.notNl (s.data.toList.drop k)) (fun i => s.size - (intOf i).toNat)
    case atStart => exact ⟨0, by omega, rfl, by simp⟩
    case round =>
      obtain ⟨k, hk, rfl, hu⟩ := hrel
      have HU : Hid (Plain.run Plain.notNl s.data.toList = k + Plain.run Plain.notNl (s.data.toList.drop k)) := hu
      clear hu hc0
      by_cases hks : k < s.size
      · have hck : w.cell? ⟨b, k, none⟩ = some (.int .u8 (s[k].toNat : Int)) := by simpa using HB.out k hks
        cases hnl : ((s[k].toNat : Int) != 10)
        · have g := r_miss Plain.notNl s k hks (nl_no _ hnl)
          go_wp2
          go_ret2
          exact ⟨ret_two (by rw [← HN.out, HU.out, g]; simp), rfl⟩
        · have g := r_hit Plain.notNl s k hks (nl_yes _ hnl)
          go_wp2
          go_round
          case rel => exact ⟨k + 1, by omega, by go_num, by rw [HU.out, g]; omega⟩
          case measure => simp [intOf]; omega
      · have g := r_end Plain.notNl s k hks
        go_wp2
        go_ret2
        exact ⟨ret_two (by rw [← HN.out, HU.out, g]; simp), rfl⟩

theorem b_hit (s : ByteArray) (k : Nat) (h : k + 1 < s.size) (h1 : ((s[k].toNat : Int) == 42) = true) (h2 : ((s[k + 1].toNat : Int) == 47) = true) : Plain.bc (s.data.toList.drop k) k = some k := by
  rw [drop_at s k (by omega), drop_at s (k + 1) h, is_of _ 42 (by decide) h1, is_of _ 47 (by decide) h2]
  simp [Plain.bc]
theorem b_step (s : ByteArray) (k : Nat) (h : k + 1 < s.size) (h1 : ((s[k].toNat : Int) == 42) = false ∨ ((s[k + 1].toNat : Int) == 47) = false) : Plain.bc (s.data.toList.drop k) k = Plain.bc (s.data.toList.drop (k + 1)) (k + 1) := by
  rw [drop_at s k (by omega), drop_at s (k + 1) h, Plain.bc, if_neg]
  intro hc
  rcases h1 with h1 | h1
  · exact not_of _ 42 (by decide) h1 hc.1
  · exact not_of _ 47 (by decide) h1 hc.2
theorem b_end (s : ByteArray) (k : Nat) (h : ¬ k + 1 < s.size) : Plain.bc (s.data.toList.drop k) k = none := by
  by_cases hk : k < s.size
  · rw [drop_at s k hk, List.drop_of_length_le (by rw [size_len]; omega)]
    rfl
  · rw [List.drop_of_length_le (by rw [size_len]; omega)]
    rfl

set_option maxHeartbeats 1000000 in
set_option maxRecDepth 100000 in
theorem mod_block (b c : Nat) (s : ByteArray) (w : World) (hs : s.size ≤ 1048576) (h0 : 2 ≤ s.size) (hb : Lib.Bytes w b 0 s) (h : s[0] = 47) (h1 : s[1] = 42) (N : Nat) (hN : Plain.orAll ((Plain.bc (s.data.toList.drop 2) 2).map (· + 2)) s.size = N) :
    Calls Try.prog 11 #[.slice (some ⟨b, 0, none⟩) s.size c] w fun e w' => e = .returned (.tuple #[.int .i64 6, .int .i64 N]) ∧ w' = w := by
  have HB : Hid (Lib.Bytes w b 0 s) := hb
  have HN : Hid (Plain.orAll ((Plain.bc (s.data.toList.drop 2) 2).map (· + 2)) s.size = N) := hN
  have hc0 : w.cell? ⟨b, 0, none⟩ = some (.int .u8 47) := by have := hb 0 (by omega); rw [h] at this; exact this
  have hc1 : w.cell? ⟨b, 1, none⟩ = some (.int .u8 42) := by have := hb 1 (by omega); rw [h1] at this; exact this
  have h2 : (2 : Int) ≤ (s.size : Int) := by omega
  clear hb hN h h1
  go_enter Try.func11, Try.ntmps11
  go_wp2_with fail
  go_loop [7] (fun i => ∃ k : Nat, 2 ≤ k ∧ k ≤ s.size ∧ i = .int .i64 k ∧ Plain.bc (s.data.toList.drop k) k = Plain.bc (s.data.toList.drop 2) 2) (fun i => s.size - (intOf i).toNat)
  case atStart => exact ⟨2, by omega, by omega, rfl, rfl⟩
  case round =>
    obtain ⟨k, hk2, hk, rfl, hu⟩ := hrel
    have HU : Hid (Plain.bc (s.data.toList.drop k) k = Plain.bc (s.data.toList.drop 2) 2) := hu
    clear hu hc0 hc1
    by_cases hks : k + 1 < s.size
    · have hck : w.cell? ⟨b, k, none⟩ = some (.int .u8 (s[k].toNat : Int)) := by simpa using HB.out k (by omega)
      have hck1 : w.cell? ⟨b, k + 1, none⟩ = some (.int .u8 (s[k + 1].toNat : Int)) := by simpa using HB.out (k + 1) hks
      have hksi : (k : Int) + 1 < (s.size : Int) := by omega
      cases h42 : ((s[k].toNat : Int) == 42)
      · have g := b_step s k hks (.inl h42)
        go_wp2
        go_round
        case rel => exact ⟨k + 1, by omega, by omega, by go_num, by rw [← g, HU.out]⟩
        case measure => simp [intOf]; omega
      · cases h47 : ((s[k + 1].toNat : Int) == 47)
        · have g := b_step s k hks (.inr h47)
          go_wp2
          go_round
          case rel => exact ⟨k + 1, by omega, by omega, by go_num, by rw [← g, HU.out]⟩
          case measure => simp [intOf]; omega
        · have g := b_hit s k hks h42 h47
          go_wp2
          go_ret2
          exact ⟨ret_two (by rw [← HN.out, ← HU.out, g]; rfl), rfl⟩
    · have g := b_end s k hks
      have hksi : ¬ (k : Int) + 1 < (s.size : Int) := by omega
      go_wp2
      go_ret2
      exact ⟨ret_two (by rw [← HN.out, ← HU.out, g]; rfl), rfl⟩

/-! ### Quoted strings -/
theorem r_quote (s : ByteArray) (k r : Nat) (h : k < s.size) (h1 : ((s[k].toNat : Int) == 34) = true) (h2 : ((r : Int) % 2 == 0) = true) : Plain.qrun (s.data.toList.drop k) r k = some (k + 1) := by
  have h2' : r % 2 = 0 := by have := beq_iff_eq.1 h2; omega
  rw [drop_at s k h, is_of _ 34 (by decide) h1, Plain.qrun, if_pos ⟨rfl, h2'⟩]
theorem r_back (s : ByteArray) (k r : Nat) (h : k < s.size) (h1 : ((s[k].toNat : Int) == 92) = true) : Plain.qrun (s.data.toList.drop k) r k = Plain.qrun (s.data.toList.drop (k + 1)) (r + 1) (k + 1) := by
  rw [drop_at s k h, is_of _ 92 (by decide) h1, Plain.qrun, if_neg (fun h => absurd h.1 (by decide)), if_pos (by decide : UInt8.ofNat 92 = 92)]
theorem r_else (s : ByteArray) (k r : Nat) (h : k < s.size) (h1 : ((s[k].toNat : Int) == 92) = false) (h2 : ((s[k].toNat : Int) == 34) = false ∨ ((r : Int) % 2 == 0) = false) : Plain.qrun (s.data.toList.drop k) r k = Plain.qrun (s.data.toList.drop (k + 1)) 0 (k + 1) := by
  rw [drop_at s k h, Plain.qrun, if_neg, if_neg (show ¬ s[k] = 92 from not_of _ 92 (by decide) h1)]
  intro hc
  rcases h2 with h2 | h2
  · exact not_of _ 34 (by decide) h2 hc.1
  · have := beq_eq_false_iff_ne.1 h2
    omega
theorem r_done (s : ByteArray) (k r : Nat) (h : ¬ k < s.size) : Plain.qrun (s.data.toList.drop k) r k = none := by
  rw [List.drop_of_length_le (by rw [size_len]; omega)]
  rfl

set_option maxHeartbeats 1000000 in
set_option maxRecDepth 100000 in
theorem mod_quoted (b c : Nat) (s : ByteArray) (w : World) (hs : s.size ≤ 1048576) (h0 : 0 < s.size) (hb : Lib.Bytes w b 0 s) (h : s[0] = 34) (N : Nat) (hN : Plain.orAll (Plain.qend (s.data.toList.drop 1) 1) s.size = N) :
    Calls Try.prog 11 #[.slice (some ⟨b, 0, none⟩) s.size c] w fun e w' => e = .returned (.tuple #[.int .i64 4, .int .i64 N]) ∧ w' = w := by
  have HB : Hid (Lib.Bytes w b 0 s) := hb
  have HN : Hid (Plain.orAll (Plain.qrun (s.data.toList.drop 1) 0 1) s.size = N) := by
    show _ = _
    rw [Plain.qrun_qend]
    exact hN
  have hc0 : w.cell? ⟨b, 0, none⟩ = some (.int .u8 34) := by have := hb 0 h0; rw [h] at this; exact this
  clear hb hN h
  by_cases h2 : (2 : Int) ≤ (s.size : Int)
  all_goals
    go_enter Try.func11, Try.ntmps11
    go_wp2_with fail
    go_loop [8, 9] (fun v i => ∃ k r : Nat, 1 ≤ k ∧ k ≤ s.size ∧ r ≤ k ∧ i = .int .i64 k ∧ v = .int .i64 r ∧ Plain.qrun (s.data.toList.drop k) r k = Plain.qrun (s.data.toList.drop 1) 0 1) (fun _ i => s.size - (intOf i).toNat)
    case atStart => exact ⟨1, 0, by omega, by omega, by omega, rfl, rfl, rfl⟩
    case round =>
      obtain ⟨k, r, hk1, hk, hrk, rfl, rfl, hu⟩ := hrel
      have HU : Hid (Plain.qrun (s.data.toList.drop k) r k = Plain.qrun (s.data.toList.drop 1) 0 1) := hu
      clear hu hc0
      by_cases hks : k < s.size
      · have hck : w.cell? ⟨b, k, none⟩ = some (.int .u8 (s[k].toNat : Int)) := by simpa using HB.out k hks
        cases h92 : ((s[k].toNat : Int) == 92)
        · cases h34 : ((s[k].toNat : Int) == 34)
          · have g := r_else s k r hks h92 (.inl h34)
            go_wp2
            go_round
            case rel => exact ⟨k + 1, 0, by omega, by omega, by omega, by go_num, rfl, by rw [← g, HU.out]⟩
            case measure => simp [intOf]; omega
          · cases hr2 : ((r : Int) % 2 == 0)
            · have g := r_else s k r hks h92 (.inr hr2)
              go_wp2
              go_round
              case rel => exact ⟨k + 1, 0, by omega, by omega, by omega, by go_num, rfl, by rw [← g, HU.out]⟩
              case measure => simp [intOf]; omega
            · have g := r_quote s k r hks h34 hr2
              go_wp2
              go_ret2
              exact ⟨ret_two (by rw [← HN.out, ← HU.out, g]; rfl), rfl⟩
        · have g := r_back s k r hks h92
          have h34 : ((s[k].toNat : Int) == 34) = false := eq_no _ 34 (by decide) (by rw [is_of _ 92 (by decide) h92]; decide)
          go_wp2
          go_round
          case rel => exact ⟨k + 1, r + 1, by omega, by omega, by omega, by go_num, by go_num, by rw [← g, HU.out]⟩
          case measure => simp [intOf]; omega
      · have g := r_done s k r hks
        go_wp2
        go_ret2
        exact ⟨ret_two (by rw [← HN.out, ← HU.out, g]; rfl), rfl⟩
end Go.Proofs.Qxb6604796a
