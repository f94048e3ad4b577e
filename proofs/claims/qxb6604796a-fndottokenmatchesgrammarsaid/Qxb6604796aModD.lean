/-
  zzDotModel (11): the automaton (another byte first).
-/
import Derived.Test.Qxb6604796aModB
import Derived.Test.Qxb6604796aModC
namespace Go.Proofs.Qxb6604796a
open Go.RowKit
set_option linter.unusedVariables false
set_option linter.unusedSimpArgs false

set_option maxHeartbeats 4000000 in
set_option maxRecDepth 100000 in
theorem mod_num_plain (b c : Nat) (s : ByteArray) (w : World) (hs : s.size ≤ 1048576) (h0 : 0 < s.size) (hb : Lib.Bytes w b 0 s) (n35 : s[0] ≠ 35) (n34 : s[0] ≠ 34) (n60 : s[0] ≠ 60) (hle0 : Plain.letter s[0] = false) (h1 : 2 ≤ s.size) (n47 : s[0] ≠ 47) (n45 : s[0] ≠ 45)
    (K N : Nat) (hKN : (if 0 < Plain.aut s.data.toList 0 0 0 then (2, Plain.aut s.data.toList 0 0 0) else (0, 1)) = (K, N)) :
    Calls Try.prog 11 #[.slice (some ⟨b, 0, none⟩) s.size c] w fun e w' => e = .returned (.tuple #[.int .i64 K, .int .i64 N]) ∧ w' = w := by
  have HB : Hid (Lib.Bytes w b 0 s) := hb
  have HKN : Hid ((if 0 < Plain.aut s.data.toList 0 0 0 then (2, Plain.aut s.data.toList 0 0 0) else (0, 1)) = (K, N)) := hKN
  obtain ⟨x, hx⟩ : ∃ x, s[0] = x := ⟨_, rfl⟩
  have hc0 : w.cell? ⟨b, 0, none⟩ = some (.int .u8 (x.toNat : Int)) := by have := hb 0 h0; rw [hx] at this; exact this
  have h35 : ((x.toNat : Int) == 35) = false := eq_no x 35 (by decide) (by rw [← hx]; exact n35)
  have h34 : ((x.toNat : Int) == 34) = false := eq_no x 34 (by decide) (by rw [← hx]; exact n34)
  have h60 : ((x.toNat : Int) == 60) = false := eq_no x 60 (by decide) (by rw [← hx]; exact n60)
  rw [hx] at hle0
  have h2 : (2 : Int) ≤ (s.size : Int) := by omega
  have h47 : ((x.toNat : Int) == 47) = false := eq_no x 47 (by decide) (by rw [← hx]; exact n47)
  have h45x : ((x.toNat : Int) == 45) = false := eq_no x 45 (by decide) (by rw [← hx]; exact n45)
  clear hb hKN hx n35 n34 n60 n47 n45
  go_enter Try.func11, Try.ntmps11
  go_wp2_with fail
  refine (idstart_any x _).mono ?_
  rintro e w' ⟨rfl, hw⟩
  rw [hw, hle0]
  clear hw
  go_wp2_with fail
  go_loop [14, 15, 16] (fun a2 a1 i => ∃ k st L : Nat, k ≤ s.size ∧ st ≤ 5 ∧ L ≤ k ∧ i = .int .i64 k ∧ a1 = .int .i64 st ∧ a2 = .int .i64 L ∧ Plain.aut (s.data.toList.drop k) st k L = Plain.aut s.data.toList 0 0 0) (fun _ _ i => s.size - (intOf i).toNat)
  case atStart => exact ⟨0, 0, 0, by omega, by omega, by omega, rfl, rfl, rfl, rfl⟩
  case round =>
    obtain ⟨k, st, L, hk, hst, hLk, rfl, rfl, rfl, hu⟩ := hrel
    have HU : Hid (Plain.aut (s.data.toList.drop k) st k L = Plain.aut s.data.toList 0 0 0) := hu
    clear hu hc0
    by_cases hks : k < s.size
    · obtain ⟨y, hy⟩ : ∃ y, s[k] = y := ⟨_, rfl⟩
      have hck : w.cell? ⟨b, k, none⟩ = some (.int .u8 (y.toNat : Int)) := by have := HB.out k hks; rw [hy, Nat.zero_add] at this; exact this
      have HY : Hid (s[k] = y) := hy
      clear hy
      have hsts : st = 0 ∨ st = 1 ∨ st = 2 ∨ st = 3 ∨ st = 4 ∨ st = 5 := by omega
      cases hd : Plain.digit y
      · by_cases h45 : y = 45
        · have b45 : ((y.toNat : Int) == 45) = true := eq_yes y 45 (by decide) h45
          have b46 : ((y.toNat : Int) == 46) = false := eq_no y 46 (by decide) (by rw [h45]; decide)
          have h46 : y ≠ 46 := by rw [h45]; decide
          rcases hsts with rfl | rfl | rfl | rfl | rfl | rfl
          · have hnx : Plain.nxt 0 y = some 1 := by simp [Plain.nxt, h45]
            clear h45 h46
            have g : Plain.aut (s.data.toList.drop k) 0 k L = Plain.aut (s.data.toList.drop (k + 1)) 1 (k + 1) (L) := a_step s k 0 1 L hks (by rw [HY.out]; exact hnx)
            clear hnx
            go_wp2_with (go_at_call 33; refine (digit_any y _).mono ?_; rintro e w' ⟨rfl, hw⟩; rw [hw, hd]; clear hw)
            go_round
            case rel => exact ⟨k + 1, 1, L, by omega, by omega, by omega, by go_num, by go_num, rfl, by rw [← g, HU.out]⟩
            case measure => simp [intOf]; omega
          · have hnx : Plain.nxt 1 y = none := by simp [Plain.nxt, hd, h46]
            clear h45 h46
            have g : Plain.aut (s.data.toList.drop k) 1 k L = L := a_stop s k 1 L hks (by rw [HY.out]; exact hnx)
            have E := fin L HKN.out (by rw [← HU.out, g])
            clear hnx g
            by_cases hL : 0 < L
            · have EH : Hid (K = 2 ∧ N = L) := E.1 hL
              clear E
              go_wp2_with (go_at_call 33; refine (digit_any y _).mono ?_; rintro e w' ⟨rfl, hw⟩; rw [hw, hd]; clear hw)
              all_goals (go_ret2; exact ⟨ret_kn (by rw [EH.out.1]; rfl) (by rw [EH.out.2]), rfl⟩)
            · have EH : Hid (K = 0 ∧ N = 1) := E.2 hL
              clear E
              go_wp2_with (go_at_call 33; refine (digit_any y _).mono ?_; rintro e w' ⟨rfl, hw⟩; rw [hw, hd]; clear hw)
              all_goals (go_ret2; exact ⟨ret_kn (by rw [EH.out.1]; rfl) (by rw [EH.out.2]; rfl), rfl⟩)
          · have hnx : Plain.nxt 2 y = none := by simp [Plain.nxt, hd, h46]
            clear h45 h46
            have g : Plain.aut (s.data.toList.drop k) 2 k L = L := a_stop s k 2 L hks (by rw [HY.out]; exact hnx)
            have E := fin L HKN.out (by rw [← HU.out, g])
            clear hnx g
            by_cases hL : 0 < L
            · have EH : Hid (K = 2 ∧ N = L) := E.1 hL
              clear E
              go_wp2_with (go_at_call 33; refine (digit_any y _).mono ?_; rintro e w' ⟨rfl, hw⟩; rw [hw, hd]; clear hw)
              all_goals (go_ret2; exact ⟨ret_kn (by rw [EH.out.1]; rfl) (by rw [EH.out.2]), rfl⟩)
            · have EH : Hid (K = 0 ∧ N = 1) := E.2 hL
              clear E
              go_wp2_with (go_at_call 33; refine (digit_any y _).mono ?_; rintro e w' ⟨rfl, hw⟩; rw [hw, hd]; clear hw)
              all_goals (go_ret2; exact ⟨ret_kn (by rw [EH.out.1]; rfl) (by rw [EH.out.2]; rfl), rfl⟩)
          · have hnx : Plain.nxt 3 y = none := by simp [Plain.nxt, hd, h46]
            clear h45 h46
            have g : Plain.aut (s.data.toList.drop k) 3 k L = L := a_stop s k 3 L hks (by rw [HY.out]; exact hnx)
            have E := fin L HKN.out (by rw [← HU.out, g])
            clear hnx g
            by_cases hL : 0 < L
            · have EH : Hid (K = 2 ∧ N = L) := E.1 hL
              clear E
              go_wp2_with (go_at_call 33; refine (digit_any y _).mono ?_; rintro e w' ⟨rfl, hw⟩; rw [hw, hd]; clear hw)
              all_goals (go_ret2; exact ⟨ret_kn (by rw [EH.out.1]; rfl) (by rw [EH.out.2]), rfl⟩)
            · have EH : Hid (K = 0 ∧ N = 1) := E.2 hL
              clear E
              go_wp2_with (go_at_call 33; refine (digit_any y _).mono ?_; rintro e w' ⟨rfl, hw⟩; rw [hw, hd]; clear hw)
              all_goals (go_ret2; exact ⟨ret_kn (by rw [EH.out.1]; rfl) (by rw [EH.out.2]; rfl), rfl⟩)
          · have hnx : Plain.nxt 4 y = none := by simp [Plain.nxt, hd, h46]
            clear h45 h46
            have g : Plain.aut (s.data.toList.drop k) 4 k L = L := a_stop s k 4 L hks (by rw [HY.out]; exact hnx)
            have E := fin L HKN.out (by rw [← HU.out, g])
            clear hnx g
            by_cases hL : 0 < L
            · have EH : Hid (K = 2 ∧ N = L) := E.1 hL
              clear E
              go_wp2_with (go_at_call 33; refine (digit_any y _).mono ?_; rintro e w' ⟨rfl, hw⟩; rw [hw, hd]; clear hw)
              all_goals (go_ret2; exact ⟨ret_kn (by rw [EH.out.1]; rfl) (by rw [EH.out.2]), rfl⟩)
            · have EH : Hid (K = 0 ∧ N = 1) := E.2 hL
              clear E
              go_wp2_with (go_at_call 33; refine (digit_any y _).mono ?_; rintro e w' ⟨rfl, hw⟩; rw [hw, hd]; clear hw)
              all_goals (go_ret2; exact ⟨ret_kn (by rw [EH.out.1]; rfl) (by rw [EH.out.2]; rfl), rfl⟩)
          · have hnx : Plain.nxt 5 y = none := by simp [Plain.nxt, hd, h46]
            clear h45 h46
            have g : Plain.aut (s.data.toList.drop k) 5 k L = L := a_stop s k 5 L hks (by rw [HY.out]; exact hnx)
            have E := fin L HKN.out (by rw [← HU.out, g])
            clear hnx g
            by_cases hL : 0 < L
            · have EH : Hid (K = 2 ∧ N = L) := E.1 hL
              clear E
              go_wp2_with (go_at_call 33; refine (digit_any y _).mono ?_; rintro e w' ⟨rfl, hw⟩; rw [hw, hd]; clear hw)
              all_goals (go_ret2; exact ⟨ret_kn (by rw [EH.out.1]; rfl) (by rw [EH.out.2]), rfl⟩)
            · have EH : Hid (K = 0 ∧ N = 1) := E.2 hL
              clear E
              go_wp2_with (go_at_call 33; refine (digit_any y _).mono ?_; rintro e w' ⟨rfl, hw⟩; rw [hw, hd]; clear hw)
              all_goals (go_ret2; exact ⟨ret_kn (by rw [EH.out.1]; rfl) (by rw [EH.out.2]; rfl), rfl⟩)
        · have b45 : ((y.toNat : Int) == 45) = false := eq_no y 45 (by decide) h45
          by_cases h46 : y = 46
          · have b46 : ((y.toNat : Int) == 46) = true := eq_yes y 46 (by decide) h46
            rcases hsts with rfl | rfl | rfl | rfl | rfl | rfl
            · have hnx : Plain.nxt 0 y = some 4 := nx_point 0 y h46
              clear h45 h46
              have g : Plain.aut (s.data.toList.drop k) 0 k L = Plain.aut (s.data.toList.drop (k + 1)) 4 (k + 1) (L) := a_step s k 0 4 L hks (by rw [HY.out]; exact hnx)
              clear hnx
              go_wp2_with (go_at_call 33; refine (digit_any y _).mono ?_; rintro e w' ⟨rfl, hw⟩; rw [hw, hd]; clear hw)
              go_round
              case rel => exact ⟨k + 1, 4, L, by omega, by omega, by omega, by go_num, by go_num, rfl, by rw [← g, HU.out]⟩
              case measure => simp [intOf]; omega
            · have hnx : Plain.nxt 1 y = some 4 := nx_point 1 y h46
              clear h45 h46
              have g : Plain.aut (s.data.toList.drop k) 1 k L = Plain.aut (s.data.toList.drop (k + 1)) 4 (k + 1) (L) := a_step s k 1 4 L hks (by rw [HY.out]; exact hnx)
              clear hnx
              go_wp2_with (go_at_call 33; refine (digit_any y _).mono ?_; rintro e w' ⟨rfl, hw⟩; rw [hw, hd]; clear hw)
              go_round
              case rel => exact ⟨k + 1, 4, L, by omega, by omega, by omega, by go_num, by go_num, rfl, by rw [← g, HU.out]⟩
              case measure => simp [intOf]; omega
            · have hnx : Plain.nxt 2 y = some 3 := nx_point 2 y h46
              clear h45 h46
              have g : Plain.aut (s.data.toList.drop k) 2 k L = Plain.aut (s.data.toList.drop (k + 1)) 3 (k + 1) (k + 1) := a_step s k 2 3 L hks (by rw [HY.out]; exact hnx)
              clear hnx
              go_wp2_with (go_at_call 33; refine (digit_any y _).mono ?_; rintro e w' ⟨rfl, hw⟩; rw [hw, hd]; clear hw)
              go_round
              case rel => exact ⟨k + 1, 3, k + 1, by omega, by omega, by omega, by go_num, by go_num, by go_num, by rw [← g, HU.out]⟩
              case measure => simp [intOf]; omega
            · have hnx : Plain.nxt 3 y = none := nx_point 3 y h46
              clear h45 h46
              have g : Plain.aut (s.data.toList.drop k) 3 k L = L := a_stop s k 3 L hks (by rw [HY.out]; exact hnx)
              have E := fin L HKN.out (by rw [← HU.out, g])
              clear hnx g
              by_cases hL : 0 < L
              · have EH : Hid (K = 2 ∧ N = L) := E.1 hL
                clear E
                go_wp2_with (go_at_call 33; refine (digit_any y _).mono ?_; rintro e w' ⟨rfl, hw⟩; rw [hw, hd]; clear hw)
                all_goals (go_ret2; exact ⟨ret_kn (by rw [EH.out.1]; rfl) (by rw [EH.out.2]), rfl⟩)
              · have EH : Hid (K = 0 ∧ N = 1) := E.2 hL
                clear E
                go_wp2_with (go_at_call 33; refine (digit_any y _).mono ?_; rintro e w' ⟨rfl, hw⟩; rw [hw, hd]; clear hw)
                all_goals (go_ret2; exact ⟨ret_kn (by rw [EH.out.1]; rfl) (by rw [EH.out.2]; rfl), rfl⟩)
            · have hnx : Plain.nxt 4 y = none := nx_point 4 y h46
              clear h45 h46
              have g : Plain.aut (s.data.toList.drop k) 4 k L = L := a_stop s k 4 L hks (by rw [HY.out]; exact hnx)
              have E := fin L HKN.out (by rw [← HU.out, g])
              clear hnx g
              by_cases hL : 0 < L
              · have EH : Hid (K = 2 ∧ N = L) := E.1 hL
                clear E
                go_wp2_with (go_at_call 33; refine (digit_any y _).mono ?_; rintro e w' ⟨rfl, hw⟩; rw [hw, hd]; clear hw)
                all_goals (go_ret2; exact ⟨ret_kn (by rw [EH.out.1]; rfl) (by rw [EH.out.2]), rfl⟩)
              · have EH : Hid (K = 0 ∧ N = 1) := E.2 hL
                clear E
                go_wp2_with (go_at_call 33; refine (digit_any y _).mono ?_; rintro e w' ⟨rfl, hw⟩; rw [hw, hd]; clear hw)
                all_goals (go_ret2; exact ⟨ret_kn (by rw [EH.out.1]; rfl) (by rw [EH.out.2]; rfl), rfl⟩)
            · have hnx : Plain.nxt 5 y = none := nx_point 5 y h46
              clear h45 h46
              have g : Plain.aut (s.data.toList.drop k) 5 k L = L := a_stop s k 5 L hks (by rw [HY.out]; exact hnx)
              have E := fin L HKN.out (by rw [← HU.out, g])
              clear hnx g
              by_cases hL : 0 < L
              · have EH : Hid (K = 2 ∧ N = L) := E.1 hL
                clear E
                go_wp2_with (go_at_call 33; refine (digit_any y _).mono ?_; rintro e w' ⟨rfl, hw⟩; rw [hw, hd]; clear hw)
                all_goals (go_ret2; exact ⟨ret_kn (by rw [EH.out.1]; rfl) (by rw [EH.out.2]), rfl⟩)
              · have EH : Hid (K = 0 ∧ N = 1) := E.2 hL
                clear E
                go_wp2_with (go_at_call 33; refine (digit_any y _).mono ?_; rintro e w' ⟨rfl, hw⟩; rw [hw, hd]; clear hw)
                all_goals (go_ret2; exact ⟨ret_kn (by rw [EH.out.1]; rfl) (by rw [EH.out.2]; rfl), rfl⟩)
          · have b46 : ((y.toNat : Int) == 46) = false := eq_no y 46 (by decide) h46
            rcases hsts with rfl | rfl | rfl | rfl | rfl | rfl
            · have hnx : Plain.nxt 0 y = none := by simp [Plain.nxt, hd, h45, h46]
              clear h45 h46
              have g : Plain.aut (s.data.toList.drop k) 0 k L = L := a_stop s k 0 L hks (by rw [HY.out]; exact hnx)
              have E := fin L HKN.out (by rw [← HU.out, g])
              clear hnx g
              by_cases hL : 0 < L
              · have EH : Hid (K = 2 ∧ N = L) := E.1 hL
                clear E
                go_wp2_with (go_at_call 33; refine (digit_any y _).mono ?_; rintro e w' ⟨rfl, hw⟩; rw [hw, hd]; clear hw)
                all_goals (go_ret2; exact ⟨ret_kn (by rw [EH.out.1]; rfl) (by rw [EH.out.2]), rfl⟩)
              · have EH : Hid (K = 0 ∧ N = 1) := E.2 hL
                clear E
                go_wp2_with (go_at_call 33; refine (digit_any y _).mono ?_; rintro e w' ⟨rfl, hw⟩; rw [hw, hd]; clear hw)
                all_goals (go_ret2; exact ⟨ret_kn (by rw [EH.out.1]; rfl) (by rw [EH.out.2]; rfl), rfl⟩)
            · have hnx : Plain.nxt 1 y = none := by simp [Plain.nxt, hd, h45, h46]
              clear h45 h46
              have g : Plain.aut (s.data.toList.drop k) 1 k L = L := a_stop s k 1 L hks (by rw [HY.out]; exact hnx)
              have E := fin L HKN.out (by rw [← HU.out, g])
              clear hnx g
              by_cases hL : 0 < L
              · have EH : Hid (K = 2 ∧ N = L) := E.1 hL
                clear E
                go_wp2_with (go_at_call 33; refine (digit_any y _).mono ?_; rintro e w' ⟨rfl, hw⟩; rw [hw, hd]; clear hw)
                all_goals (go_ret2; exact ⟨ret_kn (by rw [EH.out.1]; rfl) (by rw [EH.out.2]), rfl⟩)
              · have EH : Hid (K = 0 ∧ N = 1) := E.2 hL
                clear E
                go_wp2_with (go_at_call 33; refine (digit_any y _).mono ?_; rintro e w' ⟨rfl, hw⟩; rw [hw, hd]; clear hw)
                all_goals (go_ret2; exact ⟨ret_kn (by rw [EH.out.1]; rfl) (by rw [EH.out.2]; rfl), rfl⟩)
            · have hnx : Plain.nxt 2 y = none := by simp [Plain.nxt, hd, h45, h46]
              clear h45 h46
              have g : Plain.aut (s.data.toList.drop k) 2 k L = L := a_stop s k 2 L hks (by rw [HY.out]; exact hnx)
              have E := fin L HKN.out (by rw [← HU.out, g])
              clear hnx g
              by_cases hL : 0 < L
              · have EH : Hid (K = 2 ∧ N = L) := E.1 hL
                clear E
                go_wp2_with (go_at_call 33; refine (digit_any y _).mono ?_; rintro e w' ⟨rfl, hw⟩; rw [hw, hd]; clear hw)
                all_goals (go_ret2; exact ⟨ret_kn (by rw [EH.out.1]; rfl) (by rw [EH.out.2]), rfl⟩)
              · have EH : Hid (K = 0 ∧ N = 1) := E.2 hL
                clear E
                go_wp2_with (go_at_call 33; refine (digit_any y _).mono ?_; rintro e w' ⟨rfl, hw⟩; rw [hw, hd]; clear hw)
                all_goals (go_ret2; exact ⟨ret_kn (by rw [EH.out.1]; rfl) (by rw [EH.out.2]; rfl), rfl⟩)
            · have hnx : Plain.nxt 3 y = none := by simp [Plain.nxt, hd, h45, h46]
              clear h45 h46
              have g : Plain.aut (s.data.toList.drop k) 3 k L = L := a_stop s k 3 L hks (by rw [HY.out]; exact hnx)
              have E := fin L HKN.out (by rw [← HU.out, g])
              clear hnx g
              by_cases hL : 0 < L
              · have EH : Hid (K = 2 ∧ N = L) := E.1 hL
                clear E
                go_wp2_with (go_at_call 33; refine (digit_any y _).mono ?_; rintro e w' ⟨rfl, hw⟩; rw [hw, hd]; clear hw)
                all_goals (go_ret2; exact ⟨ret_kn (by rw [EH.out.1]; rfl) (by rw [EH.out.2]), rfl⟩)
              · have EH : Hid (K = 0 ∧ N = 1) := E.2 hL
                clear E
                go_wp2_with (go_at_call 33; refine (digit_any y _).mono ?_; rintro e w' ⟨rfl, hw⟩; rw [hw, hd]; clear hw)
                all_goals (go_ret2; exact ⟨ret_kn (by rw [EH.out.1]; rfl) (by rw [EH.out.2]; rfl), rfl⟩)
            · have hnx : Plain.nxt 4 y = none := by simp [Plain.nxt, hd, h45, h46]
              clear h45 h46
              have g : Plain.aut (s.data.toList.drop k) 4 k L = L := a_stop s k 4 L hks (by rw [HY.out]; exact hnx)
              have E := fin L HKN.out (by rw [← HU.out, g])
              clear hnx g
              by_cases hL : 0 < L
              · have EH : Hid (K = 2 ∧ N = L) := E.1 hL
                clear E
                go_wp2_with (go_at_call 33; refine (digit_any y _).mono ?_; rintro e w' ⟨rfl, hw⟩; rw [hw, hd]; clear hw)
                all_goals (go_ret2; exact ⟨ret_kn (by rw [EH.out.1]; rfl) (by rw [EH.out.2]), rfl⟩)
              · have EH : Hid (K = 0 ∧ N = 1) := E.2 hL
                clear E
                go_wp2_with (go_at_call 33; refine (digit_any y _).mono ?_; rintro e w' ⟨rfl, hw⟩; rw [hw, hd]; clear hw)
                all_goals (go_ret2; exact ⟨ret_kn (by rw [EH.out.1]; rfl) (by rw [EH.out.2]; rfl), rfl⟩)
            · have hnx : Plain.nxt 5 y = none := by simp [Plain.nxt, hd, h45, h46]
              clear h45 h46
              have g : Plain.aut (s.data.toList.drop k) 5 k L = L := a_stop s k 5 L hks (by rw [HY.out]; exact hnx)
              have E := fin L HKN.out (by rw [← HU.out, g])
              clear hnx g
              by_cases hL : 0 < L
              · have EH : Hid (K = 2 ∧ N = L) := E.1 hL
                clear E
                go_wp2_with (go_at_call 33; refine (digit_any y _).mono ?_; rintro e w' ⟨rfl, hw⟩; rw [hw, hd]; clear hw)
                all_goals (go_ret2; exact ⟨ret_kn (by rw [EH.out.1]; rfl) (by rw [EH.out.2]), rfl⟩)
              · have EH : Hid (K = 0 ∧ N = 1) := E.2 hL
                clear E
                go_wp2_with (go_at_call 33; refine (digit_any y _).mono ?_; rintro e w' ⟨rfl, hw⟩; rw [hw, hd]; clear hw)
                all_goals (go_ret2; exact ⟨ret_kn (by rw [EH.out.1]; rfl) (by rw [EH.out.2]; rfl), rfl⟩)
      · have h45 : y ≠ 45 := fun e => by rw [e] at hd; exact absurd hd (by decide)
        have h46 : y ≠ 46 := fun e => by rw [e] at hd; exact absurd hd (by decide)
        have b45 : ((y.toNat : Int) == 45) = false := eq_no y 45 (by decide) h45
        have b46 : ((y.toNat : Int) == 46) = false := eq_no y 46 (by decide) h46
        rcases hsts with rfl | rfl | rfl | rfl | rfl | rfl
        · have hnx : Plain.nxt 0 y = some 2 := by simp [Plain.nxt, hd, h45]
          clear h45 h46
          have g : Plain.aut (s.data.toList.drop k) 0 k L = Plain.aut (s.data.toList.drop (k + 1)) 2 (k + 1) (k + 1) := a_step s k 0 2 L hks (by rw [HY.out]; exact hnx)
          clear hnx
          go_wp2_with (go_at_call 33; refine (digit_any y _).mono ?_; rintro e w' ⟨rfl, hw⟩; rw [hw, hd]; clear hw)
          go_round
          case rel => exact ⟨k + 1, 2, k + 1, by omega, by omega, by omega, by go_num, by go_num, by go_num, by rw [← g, HU.out]⟩
          case measure => simp [intOf]; omega
        · have hnx : Plain.nxt 1 y = some 2 := by simp [Plain.nxt, hd, h45]
          clear h45 h46
          have g : Plain.aut (s.data.toList.drop k) 1 k L = Plain.aut (s.data.toList.drop (k + 1)) 2 (k + 1) (k + 1) := a_step s k 1 2 L hks (by rw [HY.out]; exact hnx)
          clear hnx
          go_wp2_with (go_at_call 33; refine (digit_any y _).mono ?_; rintro e w' ⟨rfl, hw⟩; rw [hw, hd]; clear hw)
          go_round
          case rel => exact ⟨k + 1, 2, k + 1, by omega, by omega, by omega, by go_num, by go_num, by go_num, by rw [← g, HU.out]⟩
          case measure => simp [intOf]; omega
        · have hnx : Plain.nxt 2 y = some 2 := by simp [Plain.nxt, hd, h45]
          clear h45 h46
          have g : Plain.aut (s.data.toList.drop k) 2 k L = Plain.aut (s.data.toList.drop (k + 1)) 2 (k + 1) (k + 1) := a_step s k 2 2 L hks (by rw [HY.out]; exact hnx)
          clear hnx
          go_wp2_with (go_at_call 33; refine (digit_any y _).mono ?_; rintro e w' ⟨rfl, hw⟩; rw [hw, hd]; clear hw)
          go_round
          case rel => exact ⟨k + 1, 2, k + 1, by omega, by omega, by omega, by go_num, by go_num, by go_num, by rw [← g, HU.out]⟩
          case measure => simp [intOf]; omega
        · have hnx : Plain.nxt 3 y = some 5 := by simp [Plain.nxt, hd, h45]
          clear h45 h46
          have g : Plain.aut (s.data.toList.drop k) 3 k L = Plain.aut (s.data.toList.drop (k + 1)) 5 (k + 1) (k + 1) := a_step s k 3 5 L hks (by rw [HY.out]; exact hnx)
          clear hnx
          go_wp2_with (go_at_call 33; refine (digit_any y _).mono ?_; rintro e w' ⟨rfl, hw⟩; rw [hw, hd]; clear hw)
          go_round
          case rel => exact ⟨k + 1, 5, k + 1, by omega, by omega, by omega, by go_num, by go_num, by go_num, by rw [← g, HU.out]⟩
          case measure => simp [intOf]; omega
        · have hnx : Plain.nxt 4 y = some 5 := by simp [Plain.nxt, hd, h45]
          clear h45 h46
          have g : Plain.aut (s.data.toList.drop k) 4 k L = Plain.aut (s.data.toList.drop (k + 1)) 5 (k + 1) (k + 1) := a_step s k 4 5 L hks (by rw [HY.out]; exact hnx)
          clear hnx
          go_wp2_with (go_at_call 33; refine (digit_any y _).mono ?_; rintro e w' ⟨rfl, hw⟩; rw [hw, hd]; clear hw)
          go_round
          case rel => exact ⟨k + 1, 5, k + 1, by omega, by omega, by omega, by go_num, by go_num, by go_num, by rw [← g, HU.out]⟩
          case measure => simp [intOf]; omega
        · have hnx : Plain.nxt 5 y = some 5 := by simp [Plain.nxt, hd, h45]
          clear h45 h46
          have g : Plain.aut (s.data.toList.drop k) 5 k L = Plain.aut (s.data.toList.drop (k + 1)) 5 (k + 1) (k + 1) := a_step s k 5 5 L hks (by rw [HY.out]; exact hnx)
          clear hnx
          go_wp2_with (go_at_call 33; refine (digit_any y _).mono ?_; rintro e w' ⟨rfl, hw⟩; rw [hw, hd]; clear hw)
          go_round
          case rel => exact ⟨k + 1, 5, k + 1, by omega, by omega, by omega, by go_num, by go_num, by go_num, by rw [← g, HU.out]⟩
          case measure => simp [intOf]; omega
    · have g : Plain.aut (s.data.toList.drop k) st k L = L := a_end s k st L hks
      have E := fin L HKN.out (by rw [← HU.out, g])
      clear g
      by_cases hL : 0 < L
      · have EH : Hid (K = 2 ∧ N = L) := E.1 hL
        clear E
        go_wp2
        all_goals (go_ret2; exact ⟨ret_kn (by rw [EH.out.1]; rfl) (by rw [EH.out.2]), rfl⟩)
      · have EH : Hid (K = 0 ∧ N = 1) := E.2 hL
        clear E
        go_wp2
        all_goals (go_ret2; exact ⟨ret_kn (by rw [EH.out.1]; rfl) (by rw [EH.out.2]; rfl), rfl⟩)

end Go.Proofs.Qxb6604796a
