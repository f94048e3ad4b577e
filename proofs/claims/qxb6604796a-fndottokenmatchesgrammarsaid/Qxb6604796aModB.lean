/-
  zzDotModel (11): HTML strings, words, edge operators.
-/
import Derived.Test.Qxb6604796aModA
namespace Go.Proofs.Qxb6604796a
open Go.RowKit
set_option linter.unusedVariables false
set_option linter.unusedSimpArgs false

set_option maxHeartbeats 1000000 in
set_option maxRecDepth 100000 in
theorem mod_html (b c : Nat) (s : ByteArray) (w : World) (hs : s.size ≤ 1048576) (h0 : 0 < s.size) (hb : Lib.Bytes w b 0 s) (h : s[0] = 60) (N : Nat) (hN : Plain.orAll (Plain.hend s.data.toList 0 0) s.size = N) :
    Calls Try.prog 11 #[.slice (some ⟨b, 0, none⟩) s.size c] w fun e w' => e = .returned (.tuple #[.int .i64 5, .int .i64 N]) ∧ w' = w := by
  have HB : Hid (Lib.Bytes w b 0 s) := hb
  have HN : Hid (Plain.orAll (Plain.hend s.data.toList 0 0) s.size = N) := hN
  have HS : Hid (s[0] = 60) := h
  have hc0 : w.cell? ⟨b, 0, none⟩ = some (.int .u8 60) := by have := hb 0 h0; rw [h] at this; exact this
  clear hb hN h
  by_cases h2 : (2 : Int) ≤ (s.size : Int)
  all_goals
    go_enter Try.func11, Try.ntmps11
    go_wp2_with fail
    go_loop [10, 11, 12] (fun v u i => ∃ k o q : Nat, k ≤ s.size ∧ o ≤ k ∧ q ≤ o ∧ (0 < k → q < o) ∧ i = .int .i64 k ∧ v = .int .i64 o ∧ u = .int .i64 q ∧ Plain.hend (s.data.toList.drop k) ((o : Int) - q) k = Plain.hend s.data.toList 0 0) (fun _ _ i => s.size - (intOf i).toNat)
    case atStart => exact ⟨0, 0, 0, by omega, by omega, by omega, by omega, rfl, rfl, rfl, rfl⟩
    case round =>
      obtain ⟨k, o, q, hk, hok, hqo, hpos, rfl, rfl, rfl, hu⟩ := hrel
      have HU : Hid (Plain.hend (s.data.toList.drop k) ((o : Int) - q) k = Plain.hend s.data.toList 0 0) := hu
      clear hu hc0
      by_cases hks : k < s.size
      · have hck : w.cell? ⟨b, k, none⟩ = some (.int .u8 (s[k].toNat : Int)) := by simpa using HB.out k hks
        cases h60 : ((s[k].toNat : Int) == 60)
        · have hk0 : 0 < k := by
            rcases Nat.eq_zero_or_pos k with h | h
            · exfalso
              subst h
              exact not_of _ 60 (by decide) h60 HS.out
            · exact h
          have hqo' : q < o := hpos hk0
          clear hpos
          cases h62 : ((s[k].toNat : Int) == 62)
          · have g := h_step s k ((o : Int) - q) hks h60 h62
            have hne : ((o : Int) == (q : Int)) = false := beq_eq_false_iff_ne.2 (by omega)
            go_wp2
            go_round
            case rel => exact ⟨k + 1, o, q, by omega, by omega, by omega, by omega, by go_num, rfl, rfl, by rw [← g, HU.out]⟩
            case measure => simp [intOf]; omega
          · cases hd : ((o : Int) == (q : Int) + 1)
            · have hd' : ((o : Int) - q - 1 == 0) = false := by
                rw [beq_eq_false_iff_ne] at hd ⊢
                omega
              have g := h_close s k ((o : Int) - q) hks h62 hd'
              have hlt : q + 1 < o := by have := beq_eq_false_iff_ne.1 hd; omega
              go_wp2
              go_round
              case rel => exact ⟨k + 1, o, q + 1, by omega, by omega, by omega, by omega, by go_num, rfl, by go_num, by rw [show ((o : Int) - ((q + 1 : Nat) : Int)) = (o : Int) - q - 1 from by omega, ← g, HU.out]⟩
              case measure => simp [intOf]; omega
            · have hd' : ((o : Int) - q - 1 == 0) = true := by
                rw [beq_iff_eq] at hd ⊢
                omega
              have g := h_hit s k ((o : Int) - q) hks h62 hd'
              go_wp2
              go_ret2
              exact ⟨ret_two (by rw [← HN.out, ← HU.out, g]; rfl), rfl⟩
        · have g := h_open s k ((o : Int) - q) hks h60
          have h62 : ((s[k].toNat : Int) == 62) = false := eq_no _ 62 (by decide) (by rw [is_of _ 60 (by decide) h60]; decide)
          have hne : ((o : Int) + 1 == (q : Int)) = false := beq_eq_false_iff_ne.2 (by omega)
          clear hpos
          go_wp2
          go_round
          case rel => exact ⟨k + 1, o + 1, q, by omega, by omega, by omega, by omega, by go_num, by go_num, rfl, by rw [show (((o + 1 : Nat) : Int) - (q : Int)) = (o : Int) - q + 1 from by omega, ← g, HU.out]⟩
          case measure => simp [intOf]; omega
      · have g := h_none s k ((o : Int) - q) hks
        clear hpos
        go_wp2
        go_ret2
        exact ⟨ret_two (by rw [← HN.out, ← HU.out, g]; rfl), rfl⟩

set_option maxHeartbeats 1000000 in
set_option maxRecDepth 100000 in
theorem mod_word (b c : Nat) (s : ByteArray) (w : World) (hs : s.size ≤ 1048576) (h0 : 0 < s.size) (hb : Lib.Bytes w b 0 s) (hle0 : Plain.letter s[0] = true) (N : Nat) (hN : 1 + Plain.run Plain.idb (s.data.toList.drop 1) = N) :
    Calls Try.prog 11 #[.slice (some ⟨b, 0, none⟩) s.size c] w fun e w' => e = .returned (.tuple #[.int .i64 1, .int .i64 N]) ∧ w' = w := by
  have HB : Hid (Lib.Bytes w b 0 s) := hb
  have HN : Hid (1 + Plain.run Plain.idb (s.data.toList.drop 1) = N) := hN
  obtain ⟨x, hx⟩ : ∃ x, s[0] = x := ⟨_, rfl⟩
  have hc0 : w.cell? ⟨b, 0, none⟩ = some (.int .u8 (x.toNat : Int)) := by have := hb 0 h0; rw [hx] at this; exact this
  rw [hx] at hle0
  have nn : ∀ y : UInt8, Plain.letter y = false → x ≠ y := fun y hy e => by rw [e, hy] at hle0; cases hle0
  have h35 : ((x.toNat : Int) == 35) = false := eq_no x 35 (by decide) (nn 35 (by decide))
  have h47 : ((x.toNat : Int) == 47) = false := eq_no x 47 (by decide) (nn 47 (by decide))
  have h34 : ((x.toNat : Int) == 34) = false := eq_no x 34 (by decide) (nn 34 (by decide))
  have h60 : ((x.toNat : Int) == 60) = false := eq_no x 60 (by decide) (nn 60 (by decide))
  clear hb hN hx nn
  by_cases h2 : (2 : Int) ≤ (s.size : Int)
  all_goals
    go_enter Try.func11, Try.ntmps11
    go_wp2_with fail
    refine (idstart_any x _).mono ?_
    rintro e w' ⟨rfl, hw⟩
    rw [hw, hle0]
    clear hw
    go_wp2_with fail
    go_loop [13] (fun i => ∃ k : Nat, 1 ≤ k ∧ k ≤ s.size ∧ i = .int .i64 k ∧ 1 + Plain.run Plain.idb (s.data.toList.drop 1) = k + Plain.run Plain.idb (s.data.toList.drop k)) (fun i => s.size - (intOf i).toNat)
    case atStart => exact ⟨1, by omega, by omega, rfl, rfl⟩
    case round =>
      obtain ⟨k, hk1, hk, rfl, hu⟩ := hrel
      have HU : Hid (1 + Plain.run Plain.idb (s.data.toList.drop 1) = k + Plain.run Plain.idb (s.data.toList.drop k)) := hu
      clear hu hc0
      by_cases hks : k < s.size
      · obtain ⟨y, hy⟩ : ∃ y, s[k] = y := ⟨_, rfl⟩
        have hck : w.cell? ⟨b, k, none⟩ = some (.int .u8 (y.toNat : Int)) := by have := HB.out k hks; rw [hy, Nat.zero_add] at this; exact this
        have HY : Hid (s[k] = y) := hy
        clear hy
        cases hly : Plain.letter y
        · cases hdy : Plain.digit y
          · have g := r_miss Plain.idb s k hks (by rw [HY.out, Plain.idb, hly, hdy]; rfl)
            go_wp2_with (first
              | (go_at_call 32; refine (idstart_any y _).mono ?_; rintro e w' ⟨rfl, hw⟩; rw [hw, hly]; clear hw)
              | (go_at_call 33; refine (digit_any y _).mono ?_; rintro e w' ⟨rfl, hw⟩; rw [hw, hdy]; clear hw))
            go_ret2
            exact ⟨ret_two (by rw [← HN.out, HU.out, g]; simp), rfl⟩
          · have g := r_hit Plain.idb s k hks (by rw [HY.out, Plain.idb, hly, hdy]; rfl)
            go_wp2_with (first
              | (go_at_call 32; refine (idstart_any y _).mono ?_; rintro e w' ⟨rfl, hw⟩; rw [hw, hly]; clear hw)
              | (go_at_call 33; refine (digit_any y _).mono ?_; rintro e w' ⟨rfl, hw⟩; rw [hw, hdy]; clear hw))
            go_round
            case rel => exact ⟨k + 1, by omega, by omega, by go_num, by rw [HU.out, g]; omega⟩
            case measure => simp [intOf]; omega
        · have g := r_hit Plain.idb s k hks (by rw [HY.out, Plain.idb, hly]; rfl)
          go_wp2_with (go_at_call 32; refine (idstart_any y _).mono ?_; rintro e w' ⟨rfl, hw⟩; rw [hw, hly]; clear hw)
          go_round
          case rel => exact ⟨k + 1, by omega, by omega, by go_num, by rw [HU.out, g]; omega⟩
          case measure => simp [intOf]; omega
      · have g := r_end Plain.idb s k hks
        go_wp2
        go_ret2
        exact ⟨ret_two (by rw [← HN.out, HU.out, g]; simp), rfl⟩

set_option maxHeartbeats 1000000 in
set_option maxRecDepth 100000 in
theorem mod_edge (b c : Nat) (s : ByteArray) (w : World) (hs : s.size ≤ 1048576) (h0 : 2 ≤ s.size) (hb : Lib.Bytes w b 0 s) (h : s[0] = 45) (h1 : s[1] = 62 ∨ s[1] = 45) :
    Calls Try.prog 11 #[.slice (some ⟨b, 0, none⟩) s.size c] w fun e w' => e = .returned (.tuple #[.int .i64 3, .int .i64 2]) ∧ w' = w := by
  have hc0 : w.cell? ⟨b, 0, none⟩ = some (.int .u8 45) := by have := hb 0 (by omega); rw [h] at this; exact this
  obtain ⟨y, hy⟩ : ∃ y, s[1] = y := ⟨_, rfl⟩
  have hc1 : w.cell? ⟨b, 1, none⟩ = some (.int .u8 (y.toNat : Int)) := by have := hb 1 (by omega); rw [hy] at this; exact this
  have h2 : (2 : Int) ≤ (s.size : Int) := by omega
  rw [hy] at h1
  have HL : Hid (∀ W, Calls Try.prog 32 #[.int .u8 45] W fun e w' => e = .returned (.bool false) ∧ w' = W) := fun W => idstart_any 45 W
  clear hb h hy
  by_cases h62 : y = 62
  · have h62' : ((y.toNat : Int) == 62) = true := eq_yes y 62 (by decide) h62
    clear h62 h1
    go_enter Try.func11, Try.ntmps11
    go_wp2_with fail
    refine (HL.out _).mono ?_
    rintro e w' ⟨rfl, hw⟩
    rw [hw]
    clear hw
    go_wp2
    go_ret2
    exact ⟨rfl, rfl⟩
  · have h62' : ((y.toNat : Int) == 62) = false := eq_no y 62 (by decide) h62
    have h45y : ((y.toNat : Int) == 45) = true := eq_yes y 45 (by decide) (by rcases h1 with h | h; exact absurd h h62; exact h)
    clear h62 h1
    go_enter Try.func11, Try.ntmps11
    go_wp2_with fail
    refine (HL.out _).mono ?_
    rintro e w' ⟨rfl, hw⟩
    rw [hw]
    clear hw
    go_wp2
    go_ret2
    exact ⟨rfl, rfl⟩
end Go.Proofs.Qxb6604796a
