/-
  dotToken (31): numerals and single bytes.
-/
import Derived.Test.Qxb6604796aTokB
namespace Go.Proofs.Qxb6604796a
open Go.RowKit
set_option linter.unusedVariables false
set_option linter.unusedSimpArgs false

theorem ret_kn {k a k' a' : Int} (h1 : k = k') (h2 : a = a') : Ending.returned (.tuple #[.int .i64 k, .int .i64 a]) = .returned (.tuple #[.int .i64 k', .int .i64 a']) := by rw [h1, h2]

/-- The numeral's end, by the two runs of digits. -/
theorem num_point (l : List UInt8) (st D F : Nat) (hD : Plain.run Plain.digit (l.drop st) = D) (hF : Plain.run Plain.digit (l.drop (st + D + 1)) = F) (hp : l[st + D]? = some 46) (h : 0 < D ∨ 0 < F) : Plain.numAt (l.drop st) = D + 1 + F := by
  rw [Plain.numAt, hD, List.head?_drop, List.getElem?_drop, List.drop_drop, ← Nat.add_assoc, hF, if_pos ⟨hp, h⟩]
theorem num_lone (l : List UInt8) (st : Nat) (hD : Plain.run Plain.digit (l.drop st) = 0) (hF : Plain.run Plain.digit (l.drop (st + 1)) = 0) : Plain.numAt (l.drop st) = 0 := by
  have e : (l.drop st).drop (0 + 1) = l.drop (st + 1) := by rw [List.drop_drop]
  rw [Plain.numAt, hD, e, hF, if_neg (by omega)]
theorem num_plain (l : List UInt8) (st D : Nat) (hD : Plain.run Plain.digit (l.drop st) = D) (hp : l[st + D]? ≠ some 46) : Plain.numAt (l.drop st) = D := by
  rw [Plain.numAt, hD, List.head?_drop, List.getElem?_drop, if_neg (fun h => hp h.1)]

set_option maxHeartbeats 1000000 in
set_option maxRecDepth 100000 in
theorem tok_num0 (b c : Nat) (s : ByteArray) (m : Int) (w : World) (hs : s.size ≤ 1048576) (h0 : 0 < s.size) (hc : s.size ≤ c) (hlt : b < w.heap.size) (hb : Lib.Bytes w b 0 s) (hm : w.cell? ⟨0, 0, none⟩ = some (.int .i64 m))
    (h35 : s[0] ≠ 35) (hp1 : Lib.hasPrefix s.data.toList [47, 47] = false) (hp2 : Lib.hasPrefix s.data.toList [47, 42] = false) (h34 : s[0] ≠ 34) (h60 : s[0] ≠ 60) (hle0 : Plain.letter s[0] = false) (h45 : s[0] ≠ 45) (K N : Nat) (hKN : (if 0 < Plain.numAt (s.data.toList.drop 0) then (2, 0 + Plain.numAt (s.data.toList.drop 0)) else (0, 1)) = (K, N)) :
    Calls Try.prog 31 #[.slice (some ⟨b, 0, none⟩) s.size c] w fun e w' => e = .returned (.tuple #[.int .i64 K, .int .i64 N]) ∧ Below w.heap.size w w' := by
  obtain ⟨x, hx⟩ : ∃ x, s[0] = x := ⟨_, rfl⟩
  have hc0 : w.cell? ⟨b, 0, none⟩ = some (.int .u8 (x.toNat : Int)) := by have := hb 0 h0; rw [hx] at this; exact this
  have h35' : ((x.toNat : Int) == 35) = false := eq_no x 35 (by decide) (by rw [← hx]; exact h35)
  have HX : Hid (s[0] = x) := hx
  have kc := conv_const
  have S1 : Hid (St w (w.alloc (.cells #[.int .u8 47, .int .u8 47] 5 (2, 3))) b s m) := (St.start hb hlt hm).alloc _
  have T1 : Hid (Two (w.alloc (.cells #[.int .u8 47, .int .u8 47] 5 (2, 3))) w.heap.size 47 47) := two_new w 47 47
  have h34' : ((x.toNat : Int) == 34) = false := eq_no x 34 (by decide) (by rw [← hx]; exact h34)
  have h60' : ((x.toNat : Int) == 60) = false := eq_no x 60 (by decide) (by rw [← hx]; exact h60)
  have h45' : ((x.toNat : Int) == 45) = false := eq_no x 45 (by decide) (by rw [← hx]; exact h45)
  have hle : Plain.letter x = false := by rw [← hx]; exact hle0
  have HKN : Hid ((if 0 < Plain.numAt (s.data.toList.drop 0) then (2, 0 + Plain.numAt (s.data.toList.drop 0)) else (0, 1)) = (K, N)) := hKN
  have hc0' : ¬ c = 0 := by omega
  clear h34 h60 h45 hle0 hKN
  clear hb hx h35 hm
  go_enter Try.func31, Try.ntmps31
  go_wp2_with fail
  refine (prefix2 b c w.heap.size s 47 47 _ hc S1.out.1 T1.out).mono ?_
  rintro e w' ⟨rfl, hw⟩
  rw [hw, hp1]
  clear hw T1 hc0
  generalize w.alloc (.cells #[.int .u8 47, .int .u8 47] 5 (2, 3)) = w1 at S1 ⊢
  have S2 : Hid (St w (w1.alloc (.cells #[.int .u8 47, .int .u8 42] 5 (2, 3))) b s m) := S1.out.alloc _
  have T2 : Hid (Two (w1.alloc (.cells #[.int .u8 47, .int .u8 42] 5 (2, 3))) w1.heap.size 47 42) := two_new w1 47 42
  go_wp2_with fail
  refine (prefix2 b c w1.heap.size s 47 42 _ hc S2.out.1 T2.out).mono ?_
  rintro e w' ⟨rfl, hw⟩
  rw [hw, hp2]
  clear hw T2 S1 kc hp1 hp2 h35'
  generalize w1.alloc (.cells #[.int .u8 47, .int .u8 42] 5 (2, 3)) = w2 at S2 ⊢
  have hc0 : w2.cell? ⟨b, 0, none⟩ = some (.int .u8 (x.toNat : Int)) := by have := S2.out.at 0 h0; rw [HX.out] at this; exact this
  go_wp2_with fail
  refine (letter_any x _).mono ?_
  rintro e w' ⟨rfl, hw⟩
  rw [hw, hle]
  clear hw
  have hDl := Plain.run_le Plain.digit (s.data.toList.drop 0)
  rw [List.length_drop, size_len] at hDl
  obtain ⟨D, hD⟩ : ∃ D, Plain.run Plain.digit (s.data.toList.drop 0) = D := ⟨_, rfl⟩
  rw [hD] at hDl
  have HD : Hid (Plain.run Plain.digit (s.data.toList.drop 0) = D) := hD
  clear hD
  have hd := digits_at b c 0 s w2 hs (by omega) S2.out.1
  rw [Nat.sub_zero] at hd hDl
  have HDG : Hid (Calls Try.prog 42 #[.slice (some ⟨b, 0, none⟩) s.size c] w2 fun e w' => e = .returned (.int .i64 D) ∧ w' = w2) := by
    rw [HD.out] at hd
    exact hd
  clear hd
  go_wp2_with fail
  all_goals
    refine HDG.out.mono ?_
    rintro e w' ⟨rfl, hw⟩
    rw [hw]
    clear hw
    clear hc0
    by_cases hn : D < s.size
    · obtain ⟨y, hy⟩ : ∃ y, s[D] = y := ⟨_, rfl⟩
      have hcy : w2.cell? ⟨b, D, none⟩ = some (.int .u8 (y.toNat : Int)) := by have := S2.out.at (D) hn; rw [hy] at this; exact this
      have HY : Hid (s.data.toList[0 + D]? = some y) := by
        show _ = _
        rw [show 0 + D = D from by omega, get_list s (D) hn, hy]
      clear hy
      by_cases h46 : y = 46
      · have h46' : ((y.toNat : Int) == 46) = true := eq_yes y 46 (by decide) h46
        obtain ⟨F, hF⟩ : ∃ F, Plain.run Plain.digit (s.data.toList.drop (D + 1)) = F := ⟨_, rfl⟩
        have hFl := Plain.run_le Plain.digit (s.data.toList.drop (D + 1))
        rw [List.length_drop, size_len, hF] at hFl
        have HF : Hid (Plain.run Plain.digit (s.data.toList.drop (D + 1)) = F) := hF
        have HP : Hid ((0 < D ∨ 0 < F) → K = 2 ∧ N = D + 1 + F) := fun h => by
          have e := num_point s.data.toList 0 D F HD.out (by rw [show 0 + D + 1 = D + 1 from by omega]; exact hF) (by rw [HY.out, h46]) h
          have := HKN.out
          rw [e, if_pos (by omega)] at this
          obtain ⟨h1, h2⟩ := Prod.mk.inj this
          omega
        have HP0 : Hid (¬ (0 < D ∨ 0 < F) → K = 0 ∧ N = 1) := fun h => by
          have hD0 : D = 0 := by omega
          have e := num_lone s.data.toList 0 (by rw [HD.out]; exact hD0) (by rw [show 0 + 1 = D + 1 from by omega, hF]; omega)
          have := HKN.out
          rw [e, if_neg (by omega)] at this
          obtain ⟨h1, h2⟩ := Prod.mk.inj this
          omega
        clear hF h46
        by_cases hcF : c = D + 1
        · have hz : s.size - (D + 1) = 0 := by omega
          have hF0 : F = 0 := by omega
          subst hF0
          clear hFl
          subst hcF
          go_wp2_with fail
          refine (digits_none _ _ _).mono ?_
          rintro e w' ⟨rfl, hw⟩
          rw [hw]
          clear hw
          by_cases hD0 : 0 < D
          · obtain ⟨e1, e2⟩ := HP.out (.inl hD0)
            have E : Hid (K = 2 ∧ N = D + 1 + 0) := ⟨e1, e2⟩
            clear e1 e2
            go_wp2
            all_goals (go_ret2; exact ⟨ret_kn (by rw [E.out.1]; rfl) (by rw [E.out.2]; simp; try omega), S2.out.2.1⟩)
          · obtain ⟨e1, e2⟩ := HP0.out (by omega)
            have E : Hid (K = 0 ∧ N = 1) := ⟨e1, e2⟩
            obtain rfl : D = 0 := by omega
            clear e1 e2
            go_wp2
            all_goals (go_ret2; exact ⟨ret_kn (by rw [E.out.1]; rfl) (by rw [E.out.2]; rfl), S2.out.2.1⟩)
        · have HG : Hid (Calls Try.prog 42 #[.slice (some ⟨b, D + 1, none⟩) (s.size - (D + 1)) (c - (D + 1))] w2 fun e w' => e = .returned (.int .i64 F) ∧ w' = w2) := by
            have h := digits_at b (c - (D + 1)) (D + 1) s w2 hs (by omega) S2.out.1
            rw [HF.out] at h
            exact h
          go_wp2_with fail
          refine HG.out.mono ?_
          rintro e w' ⟨rfl, hw⟩
          rw [hw]
          clear hw
          by_cases hD0 : 0 < D
          · obtain ⟨e1, e2⟩ := HP.out (.inl hD0)
            have E : Hid (K = 2 ∧ N = D + 1 + F) := ⟨e1, e2⟩
            clear e1 e2
            go_wp2
            all_goals (go_ret2; exact ⟨ret_kn (by rw [E.out.1]; rfl) (by rw [E.out.2]; simp; try omega), S2.out.2.1⟩)
          · obtain rfl : D = 0 := by omega
            by_cases hF0 : 0 < F
            · obtain ⟨e1, e2⟩ := HP.out (.inr hF0)
              have E : Hid (K = 2 ∧ N = _) := ⟨e1, e2⟩
              clear e1 e2
              go_wp2
              all_goals (go_ret2; exact ⟨ret_kn (by rw [E.out.1]; rfl) (by rw [E.out.2]; simp; try omega), S2.out.2.1⟩)
            · obtain ⟨e1, e2⟩ := HP0.out (by omega)
              have E : Hid (K = 0 ∧ N = 1) := ⟨e1, e2⟩
              obtain rfl : F = 0 := by omega
              clear e1 e2
              go_wp2
              all_goals (go_ret2; exact ⟨ret_kn (by rw [E.out.1]; rfl) (by rw [E.out.2]; rfl), S2.out.2.1⟩)
      · have h46' : ((y.toNat : Int) == 46) = false := eq_no y 46 (by decide) h46
        have HP : Hid (Plain.numAt (s.data.toList.drop 0) = D) := num_plain s.data.toList 0 D HD.out (by rw [HY.out]; intro e; exact h46 (Option.some.inj e))
        clear h46
        by_cases hD0 : 0 < D
        · have E : Hid (K = 2 ∧ N = 0 + D) := by
            have := HKN.out
            rw [HP.out, if_pos hD0] at this
            obtain ⟨h1, h2⟩ := Prod.mk.inj this
            exact ⟨h1.symm, h2.symm⟩
          go_wp2
          all_goals (go_ret2; exact ⟨ret_kn (by rw [E.out.1]; rfl) (by rw [E.out.2]; simp; try omega), S2.out.2.1⟩)
        · have E : Hid (K = 0 ∧ N = 1) := by
            have := HKN.out
            rw [HP.out, if_neg hD0] at this
            obtain ⟨h1, h2⟩ := Prod.mk.inj this
            exact ⟨h1.symm, h2.symm⟩
          obtain rfl : D = 0 := by omega
          go_wp2
          all_goals (go_ret2; exact ⟨ret_kn (by rw [E.out.1]; rfl) (by rw [E.out.2]; rfl), S2.out.2.1⟩)
    · have HP : Hid (Plain.numAt (s.data.toList.drop 0) = D) := num_plain s.data.toList 0 D HD.out (by rw [List.getElem?_eq_none (by rw [size_len]; omega)]; simp)
      by_cases hD0 : 0 < D
      · have E : Hid (K = 2 ∧ N = 0 + D) := by
          have := HKN.out
          rw [HP.out, if_pos hD0] at this
          obtain ⟨h1, h2⟩ := Prod.mk.inj this
          exact ⟨h1.symm, h2.symm⟩
        go_wp2
        all_goals (go_ret2; exact ⟨ret_kn (by rw [E.out.1]; rfl) (by rw [E.out.2]; simp; try omega), S2.out.2.1⟩)
      · have E : Hid (K = 0 ∧ N = 1) := by
          have := HKN.out
          rw [HP.out, if_neg hD0] at this
          obtain ⟨h1, h2⟩ := Prod.mk.inj this
          exact ⟨h1.symm, h2.symm⟩
        obtain rfl : D = 0 := by omega
        go_wp2
        all_goals (go_ret2; exact ⟨ret_kn (by rw [E.out.1]; rfl) (by rw [E.out.2]; rfl), S2.out.2.1⟩)

set_option maxHeartbeats 1000000 in
set_option maxRecDepth 100000 in
theorem tok_num1 (b c : Nat) (s : ByteArray) (m : Int) (w : World) (hs : s.size ≤ 1048576) (h0 : 0 < s.size) (hc : s.size ≤ c) (hlt : b < w.heap.size) (hb : Lib.Bytes w b 0 s) (hm : w.cell? ⟨0, 0, none⟩ = some (.int .i64 m))
    (h35 : s[0] ≠ 35) (hp1 : Lib.hasPrefix s.data.toList [47, 47] = false) (hp2 : Lib.hasPrefix s.data.toList [47, 42] = false) (h45 : s[0] = 45) (hed : ∀ h : 1 < s.size, s[1] ≠ 62 ∧ s[1] ≠ 45) (K N : Nat) (hKN : (if 0 < Plain.numAt (s.data.toList.drop 1) then (2, 1 + Plain.numAt (s.data.toList.drop 1)) else (0, 1)) = (K, N)) :
    Calls Try.prog 31 #[.slice (some ⟨b, 0, none⟩) s.size c] w fun e w' => e = .returned (.tuple #[.int .i64 K, .int .i64 N]) ∧ Below w.heap.size w w' := by
  obtain ⟨x, hx⟩ : ∃ x, s[0] = x := ⟨_, rfl⟩
  have hc0 : w.cell? ⟨b, 0, none⟩ = some (.int .u8 (x.toNat : Int)) := by have := hb 0 h0; rw [hx] at this; exact this
  have h35' : ((x.toNat : Int) == 35) = false := eq_no x 35 (by decide) (by rw [← hx]; exact h35)
  have HX : Hid (s[0] = x) := hx
  have kc := conv_const
  have S1 : Hid (St w (w.alloc (.cells #[.int .u8 47, .int .u8 47] 5 (2, 3))) b s m) := (St.start hb hlt hm).alloc _
  have T1 : Hid (Two (w.alloc (.cells #[.int .u8 47, .int .u8 47] 5 (2, 3))) w.heap.size 47 47) := two_new w 47 47
  have h34' : ((x.toNat : Int) == 34) = false := eq_no x 34 (by decide) (by rw [← hx, h45]; decide)
  have h60' : ((x.toNat : Int) == 60) = false := eq_no x 60 (by decide) (by rw [← hx, h45]; decide)
  have h45' : ((x.toNat : Int) == 45) = true := eq_yes x 45 (by decide) (by rw [← hx]; exact h45)
  have hle : Plain.letter x = false := by rw [← hx, h45]; decide
  have HKN : Hid ((if 0 < Plain.numAt (s.data.toList.drop 1) then (2, 1 + Plain.numAt (s.data.toList.drop 1)) else (0, 1)) = (K, N)) := hKN
  have HED : Hid (∀ h : 1 < s.size, s[1] ≠ 62 ∧ s[1] ≠ 45) := hed
  clear h45 hKN hed
  clear hb hx h35 hm
  go_enter Try.func31, Try.ntmps31
  go_wp2_with fail
  refine (prefix2 b c w.heap.size s 47 47 _ hc S1.out.1 T1.out).mono ?_
  rintro e w' ⟨rfl, hw⟩
  rw [hw, hp1]
  clear hw T1 hc0
  generalize w.alloc (.cells #[.int .u8 47, .int .u8 47] 5 (2, 3)) = w1 at S1 ⊢
  have S2 : Hid (St w (w1.alloc (.cells #[.int .u8 47, .int .u8 42] 5 (2, 3))) b s m) := S1.out.alloc _
  have T2 : Hid (Two (w1.alloc (.cells #[.int .u8 47, .int .u8 42] 5 (2, 3))) w1.heap.size 47 42) := two_new w1 47 42
  go_wp2_with fail
  refine (prefix2 b c w1.heap.size s 47 42 _ hc S2.out.1 T2.out).mono ?_
  rintro e w' ⟨rfl, hw⟩
  rw [hw, hp2]
  clear hw T2 S1 kc hp1 hp2 h35'
  generalize w1.alloc (.cells #[.int .u8 47, .int .u8 42] 5 (2, 3)) = w2 at S2 ⊢
  have hc0 : w2.cell? ⟨b, 0, none⟩ = some (.int .u8 (x.toNat : Int)) := by have := S2.out.at 0 h0; rw [HX.out] at this; exact this
  go_wp2_with fail
  refine (letter_any x _).mono ?_
  rintro e w' ⟨rfl, hw⟩
  rw [hw, hle]
  clear hw
  have hDl := Plain.run_le Plain.digit (s.data.toList.drop 1)
  rw [List.length_drop, size_len] at hDl
  obtain ⟨D, hD⟩ : ∃ D, Plain.run Plain.digit (s.data.toList.drop 1) = D := ⟨_, rfl⟩
  rw [hD] at hDl
  have HD : Hid (Plain.run Plain.digit (s.data.toList.drop 1) = D) := hD
  clear hD
  by_cases h2 : 1 < s.size
  · have hge : (2 : Int) ≤ (s.size : Int) := by omega
    obtain ⟨z, hz0⟩ : ∃ z, s[1] = z := ⟨_, rfl⟩
    have hcz : w2.cell? ⟨b, 1, none⟩ = some (.int .u8 (z.toNat : Int)) := by have := S2.out.at 1 h2; rw [hz0] at this; exact this
    obtain ⟨z1, z2⟩ := HED.out h2
    rw [hz0] at z1 z2
    have hz62 : ((z.toNat : Int) == 62) = false := eq_no z 62 (by decide) z1
    have hz45 : ((z.toNat : Int) == 45) = false := eq_no z 45 (by decide) z2
    clear hz0 z1 z2 HED
    by_cases hcc : c = 1
    · exfalso; omega
    · have HDG : Hid (Calls Try.prog 42 #[.slice (some ⟨b, 1, none⟩) (s.size - 1) (c - 1)] w2 fun e w' => e = .returned (.int .i64 D) ∧ w' = w2) := by
        have hd := digits_at b (c - 1) 1 s w2 hs (by omega) S2.out.1
        rw [HD.out] at hd
        exact hd
      go_wp2_with fail
      refine HDG.out.mono ?_
      rintro e w' ⟨rfl, hw⟩
      rw [hw]
      clear hw hcz
      clear hc0
      by_cases hn : 1 + D < s.size
      · obtain ⟨y, hy⟩ : ∃ y, s[1 + D] = y := ⟨_, rfl⟩
        have hcy : w2.cell? ⟨b, 1 + D, none⟩ = some (.int .u8 (y.toNat : Int)) := by have := S2.out.at (1 + D) hn; rw [hy] at this; exact this
        have HY : Hid (s.data.toList[1 + D]? = some y) := by
          show _ = _
          rw [show 1 + D = 1 + D from by omega, get_list s (1 + D) hn, hy]
        clear hy
        by_cases h46 : y = 46
        · have h46' : ((y.toNat : Int) == 46) = true := eq_yes y 46 (by decide) h46
          obtain ⟨F, hF⟩ : ∃ F, Plain.run Plain.digit (s.data.toList.drop (1 + D + 1)) = F := ⟨_, rfl⟩
          have hFl := Plain.run_le Plain.digit (s.data.toList.drop (1 + D + 1))
          rw [List.length_drop, size_len, hF] at hFl
          have HF : Hid (Plain.run Plain.digit (s.data.toList.drop (1 + D + 1)) = F) := hF
          have HP : Hid ((0 < D ∨ 0 < F) → K = 2 ∧ N = 1 + D + 1 + F) := fun h => by
            have e := num_point s.data.toList 1 D F HD.out (by rw [show 1 + D + 1 = 1 + D + 1 from by omega]; exact hF) (by rw [HY.out, h46]) h
            have := HKN.out
            rw [e, if_pos (by omega)] at this
            obtain ⟨h1, h2⟩ := Prod.mk.inj this
            omega
          have HP0 : Hid (¬ (0 < D ∨ 0 < F) → K = 0 ∧ N = 1) := fun h => by
            have hD0 : D = 0 := by omega
            have e := num_lone s.data.toList 1 (by rw [HD.out]; exact hD0) (by rw [show 1 + 1 = 1 + D + 1 from by omega, hF]; omega)
            have := HKN.out
            rw [e, if_neg (by omega)] at this
            obtain ⟨h1, h2⟩ := Prod.mk.inj this
            omega
          clear hF h46
          by_cases hcF : c = 1 + D + 1
          · have hz : s.size - (1 + D + 1) = 0 := by omega
            have hF0 : F = 0 := by omega
            subst hF0
            clear hFl
            subst hcF
            go_wp2_with fail
            refine (digits_none _ _ _).mono ?_
            rintro e w' ⟨rfl, hw⟩
            rw [hw]
            clear hw
            by_cases hD0 : 0 < D
            · obtain ⟨e1, e2⟩ := HP.out (.inl hD0)
              have E : Hid (K = 2 ∧ N = 1 + D + 1 + 0) := ⟨e1, e2⟩
              clear e1 e2
              go_wp2
              all_goals (go_ret2; exact ⟨ret_kn (by rw [E.out.1]; rfl) (by rw [E.out.2]; simp; try omega), S2.out.2.1⟩)
            · obtain ⟨e1, e2⟩ := HP0.out (by omega)
              have E : Hid (K = 0 ∧ N = 1) := ⟨e1, e2⟩
              obtain rfl : D = 0 := by omega
              clear e1 e2
              go_wp2
              all_goals (go_ret2; exact ⟨ret_kn (by rw [E.out.1]; rfl) (by rw [E.out.2]; rfl), S2.out.2.1⟩)
          · have HG : Hid (Calls Try.prog 42 #[.slice (some ⟨b, 1 + D + 1, none⟩) (s.size - (1 + D + 1)) (c - (1 + D + 1))] w2 fun e w' => e = .returned (.int .i64 F) ∧ w' = w2) := by
              have h := digits_at b (c - (1 + D + 1)) (1 + D + 1) s w2 hs (by omega) S2.out.1
              rw [HF.out] at h
              exact h
            go_wp2_with fail
            refine HG.out.mono ?_
            rintro e w' ⟨rfl, hw⟩
            rw [hw]
            clear hw
            by_cases hD0 : 0 < D
            · obtain ⟨e1, e2⟩ := HP.out (.inl hD0)
              have E : Hid (K = 2 ∧ N = 1 + D + 1 + F) := ⟨e1, e2⟩
              clear e1 e2
              go_wp2
              all_goals (go_ret2; exact ⟨ret_kn (by rw [E.out.1]; rfl) (by rw [E.out.2]; simp; try omega), S2.out.2.1⟩)
            · obtain rfl : D = 0 := by omega
              by_cases hF0 : 0 < F
              · obtain ⟨e1, e2⟩ := HP.out (.inr hF0)
                have E : Hid (K = 2 ∧ N = _) := ⟨e1, e2⟩
                clear e1 e2
                go_wp2
                all_goals (go_ret2; exact ⟨ret_kn (by rw [E.out.1]; rfl) (by rw [E.out.2]; simp; try omega), S2.out.2.1⟩)
              · obtain ⟨e1, e2⟩ := HP0.out (by omega)
                have E : Hid (K = 0 ∧ N = 1) := ⟨e1, e2⟩
                obtain rfl : F = 0 := by omega
                clear e1 e2
                go_wp2
                all_goals (go_ret2; exact ⟨ret_kn (by rw [E.out.1]; rfl) (by rw [E.out.2]; rfl), S2.out.2.1⟩)
        · have h46' : ((y.toNat : Int) == 46) = false := eq_no y 46 (by decide) h46
          have HP : Hid (Plain.numAt (s.data.toList.drop 1) = D) := num_plain s.data.toList 1 D HD.out (by rw [HY.out]; intro e; exact h46 (Option.some.inj e))
          clear h46
          by_cases hD0 : 0 < D
          · have E : Hid (K = 2 ∧ N = 1 + D) := by
              have := HKN.out
              rw [HP.out, if_pos hD0] at this
              obtain ⟨h1, h2⟩ := Prod.mk.inj this
              exact ⟨h1.symm, h2.symm⟩
            go_wp2
            all_goals (go_ret2; exact ⟨ret_kn (by rw [E.out.1]; rfl) (by rw [E.out.2]; simp; try omega), S2.out.2.1⟩)
          · have E : Hid (K = 0 ∧ N = 1) := by
              have := HKN.out
              rw [HP.out, if_neg hD0] at this
              obtain ⟨h1, h2⟩ := Prod.mk.inj this
              exact ⟨h1.symm, h2.symm⟩
            obtain rfl : D = 0 := by omega
            go_wp2
            all_goals (go_ret2; exact ⟨ret_kn (by rw [E.out.1]; rfl) (by rw [E.out.2]; rfl), S2.out.2.1⟩)
      · have HP : Hid (Plain.numAt (s.data.toList.drop 1) = D) := num_plain s.data.toList 1 D HD.out (by rw [List.getElem?_eq_none (by rw [size_len]; omega)]; simp)
        by_cases hD0 : 0 < D
        · have E : Hid (K = 2 ∧ N = 1 + D) := by
            have := HKN.out
            rw [HP.out, if_pos hD0] at this
            obtain ⟨h1, h2⟩ := Prod.mk.inj this
            exact ⟨h1.symm, h2.symm⟩
          go_wp2
          all_goals (go_ret2; exact ⟨ret_kn (by rw [E.out.1]; rfl) (by rw [E.out.2]; simp; try omega), S2.out.2.1⟩)
        · have E : Hid (K = 0 ∧ N = 1) := by
            have := HKN.out
            rw [HP.out, if_neg hD0] at this
            obtain ⟨h1, h2⟩ := Prod.mk.inj this
            exact ⟨h1.symm, h2.symm⟩
          obtain rfl : D = 0 := by omega
          go_wp2
          all_goals (go_ret2; exact ⟨ret_kn (by rw [E.out.1]; rfl) (by rw [E.out.2]; rfl), S2.out.2.1⟩)
  · have hge : ¬ (2 : Int) ≤ (s.size : Int) := by omega
    clear HED
    obtain rfl : D = 0 := by omega
    have HP : Hid (Plain.numAt (s.data.toList.drop 1) = 0) := num_plain s.data.toList 1 0 HD.out (by rw [List.getElem?_eq_none (by rw [size_len]; omega)]; simp)
    have E : Hid (K = 0 ∧ N = 1) := by
      have := HKN.out
      rw [HP.out, if_neg (by omega)] at this
      obtain ⟨h1, h2⟩ := Prod.mk.inj this
      exact ⟨h1.symm, h2.symm⟩
    have hn1 : ¬ (1 : Int) < (s.size : Int) := by omega
    by_cases hcc : c = 1
    · have hz1 : s.size - 1 = 0 := by omega
      subst hcc
      go_wp2_with fail
      refine (digits_none _ _ _).mono ?_
      rintro e w' ⟨rfl, hw⟩
      rw [hw]
      clear hw
      go_wp2
      all_goals (go_ret2; exact ⟨ret_kn (by rw [E.out.1]; rfl) (by rw [E.out.2]; rfl), S2.out.2.1⟩)
    · have HDG : Hid (Calls Try.prog 42 #[.slice (some ⟨b, 1, none⟩) (s.size - 1) (c - 1)] w2 fun e w' => e = .returned (.int .i64 0) ∧ w' = w2) := by
        have hd := digits_at b (c - 1) 1 s w2 hs (by omega) S2.out.1
        rw [HD.out] at hd
        exact hd
      go_wp2_with fail
      refine HDG.out.mono ?_
      rintro e w' ⟨rfl, hw⟩
      rw [hw]
      clear hw
      go_wp2
      all_goals (go_ret2; exact ⟨ret_kn (by rw [E.out.1]; rfl) (by rw [E.out.2]; rfl), S2.out.2.1⟩)

end Go.Proofs.Qxb6604796a
