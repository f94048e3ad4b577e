/-
  dotToken (31), branch by branch: quoted strings, HTML strings, words, edge operators, numerals.
-/
import Derived.Test.Qxb6604796aTokA
namespace Go.Proofs.Qxb6604796a
open Go.RowKit
set_option linter.unusedVariables false
set_option linter.unusedSimpArgs false

theorem ret_two {k a b : Int} (h : a = b) : Ending.returned (.tuple #[.int .i64 k, .int .i64 a]) = .returned (.tuple #[.int .i64 k, .int .i64 b]) := by rw [h]

theorem q_none (t : ByteArray) (k : Nat) (h : ¬ k < t.size) : Plain.qend (t.data.toList.drop k) k = none := by
  rw [List.drop_of_length_le (by rw [size_len]; omega)]
  rfl
theorem q_esc (t : ByteArray) (k : Nat) (h : k < t.size) (h1 : ((t[k].toNat : Int) == 92) = true) : Plain.qend (t.data.toList.drop k) k = Plain.qend (t.data.toList.drop (k + 2)) (k + 2) := by
  rw [drop_at t k h, is_of _ 92 (by decide) h1]
  by_cases h2 : k + 1 < t.size
  · rw [drop_at t (k + 1) h2]
    simp [Plain.qend]
  · rw [List.drop_of_length_le (by rw [size_len]; omega), List.drop_of_length_le (by rw [size_len]; omega)]
    simp [Plain.qend]
theorem q_hit (t : ByteArray) (k : Nat) (h : k < t.size) (h1 : ((t[k].toNat : Int) == 34) = true) : Plain.qend (t.data.toList.drop k) k = some (k + 1) := by
  rw [drop_at t k h, is_of _ 34 (by decide) h1]
  cases t.data.toList.drop (k + 1) <;> simp [Plain.qend]
theorem q_step (t : ByteArray) (k : Nat) (h : k < t.size) (h1 : ((t[k].toNat : Int) == 92) = false) (h2 : ((t[k].toNat : Int) == 34) = false) : Plain.qend (t.data.toList.drop k) k = Plain.qend (t.data.toList.drop (k + 1)) (k + 1) := by
  rw [drop_at t k h]
  have n1 : t[k] ≠ 92 := not_of _ 92 (by decide) h1
  have n2 : t[k] ≠ 34 := not_of _ 34 (by decide) h2
  cases e : t.data.toList.drop (k + 1) with
  | nil => simp only [Plain.qend]; rw [if_neg n1, if_neg n2]
  | cons d l => simp only [Plain.qend]; rw [if_neg n1, if_neg n2]

theorem h_none (t : ByteArray) (k : Nat) (d : Int) (h : ¬ k < t.size) : Plain.hend (t.data.toList.drop k) d k = none := by
  rw [List.drop_of_length_le (by rw [size_len]; omega)]
  rfl
theorem h_open (t : ByteArray) (k : Nat) (d : Int) (h : k < t.size) (h1 : ((t[k].toNat : Int) == 60) = true) : Plain.hend (t.data.toList.drop k) d k = Plain.hend (t.data.toList.drop (k + 1)) (d + 1) (k + 1) := by
  rw [drop_at t k h, is_of _ 60 (by decide) h1]
  simp [Plain.hend]
theorem h_hit (t : ByteArray) (k : Nat) (d : Int) (h : k < t.size) (h1 : ((t[k].toNat : Int) == 62) = true) (hd : (d - 1 == 0) = true) : Plain.hend (t.data.toList.drop k) d k = some (k + 1) := by
  have hd' : d - 1 = 0 := beq_iff_eq.1 hd
  rw [drop_at t k h, is_of _ 62 (by decide) h1]
  simp [Plain.hend, hd']
theorem h_close (t : ByteArray) (k : Nat) (d : Int) (h : k < t.size) (h1 : ((t[k].toNat : Int) == 62) = true) (hd : (d - 1 == 0) = false) : Plain.hend (t.data.toList.drop k) d k = Plain.hend (t.data.toList.drop (k + 1)) (d - 1) (k + 1) := by
  have hd' : ¬ d - 1 = 0 := beq_eq_false_iff_ne.1 hd
  rw [drop_at t k h, is_of _ 62 (by decide) h1]
  simp [Plain.hend, hd']
theorem h_step (t : ByteArray) (k : Nat) (d : Int) (h : k < t.size) (h1 : ((t[k].toNat : Int) == 60) = false) (h2 : ((t[k].toNat : Int) == 62) = false) : Plain.hend (t.data.toList.drop k) d k = Plain.hend (t.data.toList.drop (k + 1)) d (k + 1) := by
  rw [drop_at t k h]
  have n1 : t[k] ≠ 60 := not_of _ 60 (by decide) h1
  have n2 : t[k] ≠ 62 := not_of _ 62 (by decide) h2
  rw [Plain.hend, if_neg n1, if_neg n2]

set_option maxHeartbeats 1000000 in
set_option maxRecDepth 100000 in
theorem tok_quoted (b c : Nat) (s : ByteArray) (m : Int) (w : World) (hs : s.size ≤ 1048576) (h0 : 0 < s.size) (hc : s.size ≤ c) (hlt : b < w.heap.size) (hb : Lib.Bytes w b 0 s) (hm : w.cell? ⟨0, 0, none⟩ = some (.int .i64 m))
    (h35 : s[0] ≠ 35) (hp1 : Lib.hasPrefix s.data.toList [47, 47] = false) (hp2 : Lib.hasPrefix s.data.toList [47, 42] = false) (h34 : s[0] = 34) (N : Nat) (hN : (Plain.orAll (Plain.qend (s.data.toList.drop 1) 1) s.size) = N) :
    Calls Try.prog 31 #[.slice (some ⟨b, 0, none⟩) s.size c] w fun e w' => e = .returned (.tuple #[.int .i64 4, .int .i64 N]) ∧ Below w.heap.size w w' := by
  have HN : Hid ((Plain.orAll (Plain.qend (s.data.toList.drop 1) 1) s.size) = N) := hN
  clear hN
  obtain ⟨x, hx⟩ : ∃ x, s[0] = x := ⟨_, rfl⟩
  have hc0 : w.cell? ⟨b, 0, none⟩ = some (.int .u8 (x.toNat : Int)) := by have := hb 0 h0; rw [hx] at this; exact this
  have h35' : ((x.toNat : Int) == 35) = false := eq_no x 35 (by decide) (by rw [← hx]; exact h35)
  have HX : Hid (s[0] = x) := hx
  have kc := conv_const
  have S1 : Hid (St w (w.alloc (.cells #[.int .u8 47, .int .u8 47] 5 (2, 3))) b s m) := (St.start hb hlt hm).alloc _
  have T1 : Hid (Two (w.alloc (.cells #[.int .u8 47, .int .u8 47] 5 (2, 3))) w.heap.size 47 47) := two_new w 47 47
  have h34' : ((x.toNat : Int) == 34) = true := eq_yes x 34 (by decide) (by rw [← hx]; exact h34)
  clear h34
  clear hb hx h35 hm
  go_enter Try.func31, Try.ntmps31
  go_wp2_with fail
  refine (prefix2 b c w.heap.size s 47 47 _ hc S1.out.1 T1.out).mono ?_
  rintro e w' ⟨rfl, hw⟩
  rw [hw, hp1]
  clear hw T1 hc0
  generalize w.alloc (.cells #[.int .u8 47, .int .u8 47] 5 (2, 3)) = w1 at S1 ⊢
  have S2 : Hid (St w (w1.alloc (.cells #[.int .u8 47, .int .u8 42] 5 (2, 3))) b s m) := S1.out.alloc _
  have T2 : Hid (Two (w1.alloc (.cells #[.int .u8 47, .int .u8 42] 5 (2, 3))) w1.heap.size 47 42) := two_new w1 47 42
  go_wp2_with fail
  refine (prefix2 b c w1.heap.size s 47 42 _ hc S2.out.1 T2.out).mono ?_
  rintro e w' ⟨rfl, hw⟩
  rw [hw, hp2]
  clear hw T2 S1 kc hp1 hp2 h35'
  generalize w1.alloc (.cells #[.int .u8 47, .int .u8 42] 5 (2, 3)) = w2 at S2 ⊢
  have hc0 : w2.cell? ⟨b, 0, none⟩ = some (.int .u8 (x.toNat : Int)) := by have := S2.out.at 0 h0; rw [HX.out] at this; exact this
  go_wp2_with fail
  go_loop [6] (fun i => ∃ k : Nat, k ≤ s.size + 1 ∧ i = .int .i64 k ∧ Plain.qend (s.data.toList.drop k) k = Plain.qend (s.data.toList.drop 1) 1) (fun i => s.size + 2 - (intOf i).toNat)
  case atStart => exact ⟨1, by omega, rfl, rfl⟩
  case round =>
    obtain ⟨k, hk, rfl, hu⟩ := hrel
    have HU : Hid (Plain.qend (s.data.toList.drop k) k = Plain.qend (s.data.toList.drop 1) 1) := hu
    clear hu
    by_cases hks : k < s.size
    · have hck := S2.out.at k hks
      go_wp2
      · have g := q_esc s k hks ‹_›
        go_round
        case rel => exact ⟨k + 2, by omega, by go_num, by rw [← g, HU.out]⟩
        case measure => simp [intOf]; omega
      · have g := q_hit s k hks ‹_›
        go_ret2
        exact ⟨ret_two (by rw [← HN.out, ← HU.out, g]; rfl), S2.out.2.1⟩
      · have g := q_step s k hks ‹_› ‹_›
        go_round
        case rel => exact ⟨k + 1, by omega, by go_num, by rw [← g, HU.out]⟩
        case measure => simp [intOf]; omega
    · go_wp2
      go_ret2
      exact ⟨ret_two (by rw [← HN.out, ← HU.out, q_none s k hks]; rfl), S2.out.2.1⟩

set_option maxHeartbeats 1000000 in
set_option maxRecDepth 100000 in
theorem tok_html (b c : Nat) (s : ByteArray) (m : Int) (w : World) (hs : s.size ≤ 1048576) (h0 : 0 < s.size) (hc : s.size ≤ c) (hlt : b < w.heap.size) (hb : Lib.Bytes w b 0 s) (hm : w.cell? ⟨0, 0, none⟩ = some (.int .i64 m))
    (h35 : s[0] ≠ 35) (hp1 : Lib.hasPrefix s.data.toList [47, 47] = false) (hp2 : Lib.hasPrefix s.data.toList [47, 42] = false) (h60 : s[0] = 60) (N : Nat) (hN : (Plain.orAll (Plain.hend s.data.toList 0 0) s.size) = N) :
    Calls Try.prog 31 #[.slice (some ⟨b, 0, none⟩) s.size c] w fun e w' => e = .returned (.tuple #[.int .i64 5, .int .i64 N]) ∧ Below w.heap.size w w' := by
  have HN : Hid ((Plain.orAll (Plain.hend s.data.toList 0 0) s.size) = N) := hN
  clear hN
  obtain ⟨x, hx⟩ : ∃ x, s[0] = x := ⟨_, rfl⟩
  have hc0 : w.cell? ⟨b, 0, none⟩ = some (.int .u8 (x.toNat : Int)) := by have := hb 0 h0; rw [hx] at this; exact this
  have h35' : ((x.toNat : Int) == 35) = false := eq_no x 35 (by decide) (by rw [← hx]; exact h35)
  have HX : Hid (s[0] = x) := hx
  have kc := conv_const
  have S1 : Hid (St w (w.alloc (.cells #[.int .u8 47, .int .u8 47] 5 (2, 3))) b s m) := (St.start hb hlt hm).alloc _
  have T1 : Hid (Two (w.alloc (.cells #[.int .u8 47, .int .u8 47] 5 (2, 3))) w.heap.size 47 47) := two_new w 47 47
  have h34' : ((x.toNat : Int) == 34) = false := eq_no x 34 (by decide) (by rw [← hx, h60]; decide)
  have h60' : ((x.toNat : Int) == 60) = true := eq_yes x 60 (by decide) (by rw [← hx]; exact h60)
  clear h60
  clear hb hx h35 hm
  go_enter Try.func31, Try.ntmps31
  go_wp2_with fail
  refine (prefix2 b c w.heap.size s 47 47 _ hc S1.out.1 T1.out).mono ?_
  rintro e w' ⟨rfl, hw⟩
  rw [hw, hp1]
  clear hw T1 hc0
  generalize w.alloc (.cells #[.int .u8 47, .int .u8 47] 5 (2, 3)) = w1 at S1 ⊢
  have S2 : Hid (St w (w1.alloc (.cells #[.int .u8 47, .int .u8 42] 5 (2, 3))) b s m) := S1.out.alloc _
  have T2 : Hid (Two (w1.alloc (.cells #[.int .u8 47, .int .u8 42] 5 (2, 3))) w1.heap.size 47 42) := two_new w1 47 42
  go_wp2_with fail
  refine (prefix2 b c w1.heap.size s 47 42 _ hc S2.out.1 T2.out).mono ?_
  rintro e w' ⟨rfl, hw⟩
  rw [hw, hp2]
  clear hw T2 S1 kc hp1 hp2 h35'
  generalize w1.alloc (.cells #[.int .u8 47, .int .u8 42] 5 (2, 3)) = w2 at S2 ⊢
  have hc0 : w2.cell? ⟨b, 0, none⟩ = some (.int .u8 (x.toNat : Int)) := by have := S2.out.at 0 h0; rw [HX.out] at this; exact this
  go_wp2_with fail
  go_loop [7, 77] (fun v i => ∃ (k : Nat) (d : Int), k ≤ s.size ∧ i = .int .i64 k ∧ v = .int .i64 d ∧ -(k : Int) ≤ d ∧ d ≤ k ∧ Plain.hend (s.data.toList.drop k) d k = Plain.hend s.data.toList 0 0) (fun _ i => s.size + 1 - (intOf i).toNat)
  case atStart => exact ⟨0, 0, by omega, rfl, rfl, by omega, by omega, rfl⟩
  case round =>
    obtain ⟨k, d, hk, rfl, rfl, hd1, hd2, hu⟩ := hrel
    have HU : Hid (Plain.hend (s.data.toList.drop k) d k = Plain.hend s.data.toList 0 0) := hu
    clear hu
    by_cases hks : k < s.size
    · have hck := S2.out.at k hks
      go_wp2
      · have g := h_open s k d hks ‹_›
        go_round
        case rel => exact ⟨k + 1, d + 1, by omega, by go_num, rfl, by omega, by omega, by rw [← g, HU.out]⟩
        case measure => simp [intOf]; omega
      · have g := h_hit s k d hks ‹_› ‹_›
        go_ret2
        exact ⟨ret_two (by rw [← HN.out, ← HU.out, g]; rfl), S2.out.2.1⟩
      · have g := h_close s k d hks ‹_› ‹_›
        go_round
        case rel => exact ⟨k + 1, d - 1, by omega, by go_num, rfl, by omega, by omega, by rw [← g, HU.out]⟩
        case measure => simp [intOf]; omega
      · have g := h_step s k d hks ‹_› ‹_›
        go_round
        case rel => exact ⟨k + 1, d, by omega, by go_num, rfl, by omega, by omega, by rw [← g, HU.out]⟩
        case measure => simp [intOf]; omega
    · go_wp2
      go_ret2
      exact ⟨ret_two (by rw [← HN.out, ← HU.out, h_none s k d hks]; rfl), S2.out.2.1⟩

set_option maxHeartbeats 1000000 in
set_option maxRecDepth 100000 in
theorem tok_word (b c : Nat) (s : ByteArray) (m : Int) (w : World) (hs : s.size ≤ 1048576) (h0 : 0 < s.size) (hc : s.size ≤ c) (hlt : b < w.heap.size) (hb : Lib.Bytes w b 0 s) (hm : w.cell? ⟨0, 0, none⟩ = some (.int .i64 m))
    (h35 : s[0] ≠ 35) (hp1 : Lib.hasPrefix s.data.toList [47, 47] = false) (hp2 : Lib.hasPrefix s.data.toList [47, 42] = false) (h34 : s[0] ≠ 34) (h60 : s[0] ≠ 60) (hle : Plain.letter s[0] = true) (N : Nat) (hN : 1 + Plain.run Plain.idb (s.data.toList.drop 1) = N) :
    Calls Try.prog 31 #[.slice (some ⟨b, 0, none⟩) s.size c] w fun e w' => e = .returned (.tuple #[.int .i64 1, .int .i64 N]) ∧ Below w.heap.size w w' := by
  have HN : Hid (1 + Plain.run Plain.idb (s.data.toList.drop 1) = N) := hN
  clear hN
  obtain ⟨x, hx⟩ : ∃ x, s[0] = x := ⟨_, rfl⟩
  have hc0 : w.cell? ⟨b, 0, none⟩ = some (.int .u8 (x.toNat : Int)) := by have := hb 0 h0; rw [hx] at this; exact this
  have h35' : ((x.toNat : Int) == 35) = false := eq_no x 35 (by decide) (by rw [← hx]; exact h35)
  have HX : Hid (s[0] = x) := hx
  have kc := conv_const
  have S1 : Hid (St w (w.alloc (.cells #[.int .u8 47, .int .u8 47] 5 (2, 3))) b s m) := (St.start hb hlt hm).alloc _
  have T1 : Hid (Two (w.alloc (.cells #[.int .u8 47, .int .u8 47] 5 (2, 3))) w.heap.size 47 47) := two_new w 47 47
  have h34' : ((x.toNat : Int) == 34) = false := eq_no x 34 (by decide) (by rw [← hx]; exact h34)
  have h60' : ((x.toNat : Int) == 60) = false := eq_no x 60 (by decide) (by rw [← hx]; exact h60)
  rw [hx] at hle
  clear h34 h60
  clear hb hx h35 hm
  go_enter Try.func31, Try.ntmps31
  go_wp2_with fail
  refine (prefix2 b c w.heap.size s 47 47 _ hc S1.out.1 T1.out).mono ?_
  rintro e w' ⟨rfl, hw⟩
  rw [hw, hp1]
  clear hw T1 hc0
  generalize w.alloc (.cells #[.int .u8 47, .int .u8 47] 5 (2, 3)) = w1 at S1 ⊢
  have S2 : Hid (St w (w1.alloc (.cells #[.int .u8 47, .int .u8 42] 5 (2, 3))) b s m) := S1.out.alloc _
  have T2 : Hid (Two (w1.alloc (.cells #[.int .u8 47, .int .u8 42] 5 (2, 3))) w1.heap.size 47 42) := two_new w1 47 42
  go_wp2_with fail
  refine (prefix2 b c w1.heap.size s 47 42 _ hc S2.out.1 T2.out).mono ?_
  rintro e w' ⟨rfl, hw⟩
  rw [hw, hp2]
  clear hw T2 S1 kc hp1 hp2 h35'
  generalize w1.alloc (.cells #[.int .u8 47, .int .u8 42] 5 (2, 3)) = w2 at S2 ⊢
  have hc0 : w2.cell? ⟨b, 0, none⟩ = some (.int .u8 (x.toNat : Int)) := by have := S2.out.at 0 h0; rw [HX.out] at this; exact this
  go_wp2_with fail
  refine (letter_any x _).mono ?_
  rintro e w' ⟨rfl, hw⟩
  rw [hw, hle]
  clear hw
  go_wp2_with fail
  go_loop [10] (fun i => ∃ k : Nat, 1 ≤ k ∧ k ≤ s.size ∧ i = .int .i64 k ∧ 1 + Plain.run Plain.idb (s.data.toList.drop 1) = k + Plain.run Plain.idb (s.data.toList.drop k)) (fun i => s.size - (intOf i).toNat)
  case atStart => exact ⟨1, by omega, by omega, rfl, rfl⟩
  case round =>
    obtain ⟨k, hk1, hk, rfl, hu⟩ := hrel
    have HU : Hid (1 + Plain.run Plain.idb (s.data.toList.drop 1) = k + Plain.run Plain.idb (s.data.toList.drop k)) := hu
    clear hu
    by_cases hks : k < s.size
    · obtain ⟨y, hy⟩ : ∃ y, s[k] = y := ⟨_, rfl⟩
      have hck : w2.cell? ⟨b, k, none⟩ = some (.int .u8 (y.toNat : Int)) := by have := S2.out.at k hks; rw [hy] at this; exact this
      have HY : Hid (s[k] = y) := hy
      clear hy
      cases hly : Plain.letter y
      · go_wp2_with (go_at_call 41; refine (letter_any y _).mono ?_; rintro e w' ⟨rfl, hw⟩; rw [hw, hly]; clear hw)
        · have g := r_hit Plain.idb s k hks (by rw [HY.out, Plain.idb, digit_yes y ‹_› ‹_›]; simp)
          go_round
          case rel => exact ⟨k + 1, by omega, by omega, by go_num, by rw [HU.out, g]; omega⟩
          case measure => simp [intOf]; omega
        · have g := r_miss Plain.idb s k hks (by rw [HY.out, Plain.idb, hly, digit_hi y ‹_›]; rfl)
          go_ret2
          exact ⟨ret_two (by rw [← HN.out, HU.out, g]; simp), S2.out.2.1⟩
        · have g := r_miss Plain.idb s k hks (by rw [HY.out, Plain.idb, hly, digit_lo y ‹_›]; rfl)
          go_ret2
          exact ⟨ret_two (by rw [← HN.out, HU.out, g]; simp), S2.out.2.1⟩
      · have g := r_hit Plain.idb s k hks (by rw [HY.out, Plain.idb, hly]; rfl)
        go_wp2_with (go_at_call 41; refine (letter_any y _).mono ?_; rintro e w' ⟨rfl, hw⟩; rw [hw, hly]; clear hw)
        go_round
        case rel => exact ⟨k + 1, by omega, by omega, by go_num, by rw [HU.out, g]; omega⟩
        case measure => simp [intOf]; omega
    · have g := r_end Plain.idb s k hks
      go_wp2
      go_ret2
      exact ⟨ret_two (by rw [← HN.out, HU.out, g]; simp), S2.out.2.1⟩

set_option maxHeartbeats 1000000 in
set_option maxRecDepth 100000 in
theorem tok_edge (b c : Nat) (s : ByteArray) (m : Int) (w : World) (hs : s.size ≤ 1048576) (h0 : 0 < s.size) (hc : s.size ≤ c) (hlt : b < w.heap.size) (hb : Lib.Bytes w b 0 s) (hm : w.cell? ⟨0, 0, none⟩ = some (.int .i64 m))
    (h35 : s[0] ≠ 35) (hp1 : Lib.hasPrefix s.data.toList [47, 47] = false) (hp2 : Lib.hasPrefix s.data.toList [47, 42] = false) (h45 : s[0] = 45) (h2 : 2 ≤ s.size) (h1 : s[1] = 62 ∨ s[1] = 45) (N : Nat) (hN : 2 = N) :
    Calls Try.prog 31 #[.slice (some ⟨b, 0, none⟩) s.size c] w fun e w' => e = .returned (.tuple #[.int .i64 3, .int .i64 N]) ∧ Below w.heap.size w w' := by
  have HN : Hid (2 = N) := hN
  clear hN
  obtain ⟨x, hx⟩ : ∃ x, s[0] = x := ⟨_, rfl⟩
  have hc0 : w.cell? ⟨b, 0, none⟩ = some (.int .u8 (x.toNat : Int)) := by have := hb 0 h0; rw [hx] at this; exact this
  have h35' : ((x.toNat : Int) == 35) = false := eq_no x 35 (by decide) (by rw [← hx]; exact h35)
  have HX : Hid (s[0] = x) := hx
  have kc := conv_const
  have S1 : Hid (St w (w.alloc (.cells #[.int .u8 47, .int .u8 47] 5 (2, 3))) b s m) := (St.start hb hlt hm).alloc _
  have T1 : Hid (Two (w.alloc (.cells #[.int .u8 47, .int .u8 47] 5 (2, 3))) w.heap.size 47 47) := two_new w 47 47
  have h34' : ((x.toNat : Int) == 34) = false := eq_no x 34 (by decide) (by rw [← hx, h45]; decide)
  have h60' : ((x.toNat : Int) == 60) = false := eq_no x 60 (by decide) (by rw [← hx, h45]; decide)
  have h45' : ((x.toNat : Int) == 45) = true := eq_yes x 45 (by decide) (by rw [← hx]; exact h45)
  have hle : Plain.letter x = false := by rw [← hx, h45]; decide
  clear h45
  clear hb hx h35 hm
  go_enter Try.func31, Try.ntmps31
  go_wp2_with fail
  refine (prefix2 b c w.heap.size s 47 47 _ hc S1.out.1 T1.out).mono ?_
  rintro e w' ⟨rfl, hw⟩
  rw [hw, hp1]
  clear hw T1 hc0
  generalize w.alloc (.cells #[.int .u8 47, .int .u8 47] 5 (2, 3)) = w1 at S1 ⊢
  have S2 : Hid (St w (w1.alloc (.cells #[.int .u8 47, .int .u8 42] 5 (2, 3))) b s m) := S1.out.alloc _
  have T2 : Hid (Two (w1.alloc (.cells #[.int .u8 47, .int .u8 42] 5 (2, 3))) w1.heap.size 47 42) := two_new w1 47 42
  go_wp2_with fail
  refine (prefix2 b c w1.heap.size s 47 42 _ hc S2.out.1 T2.out).mono ?_
  rintro e w' ⟨rfl, hw⟩
  rw [hw, hp2]
  clear hw T2 S1 kc hp1 hp2 h35'
  generalize w1.alloc (.cells #[.int .u8 47, .int .u8 42] 5 (2, 3)) = w2 at S2 ⊢
  have hc0 : w2.cell? ⟨b, 0, none⟩ = some (.int .u8 (x.toNat : Int)) := by have := S2.out.at 0 h0; rw [HX.out] at this; exact this
  have hge : (2 : Int) ≤ (s.size : Int) := by omega
  obtain ⟨y, hy⟩ : ∃ y, s[1] = y := ⟨_, rfl⟩
  have hc1 : w2.cell? ⟨b, 1, none⟩ = some (.int .u8 (y.toNat : Int)) := by have := S2.out.at 1 (by omega); rw [hy] at this; exact this
  rw [hy] at h1
  clear hy
  go_wp2_with fail
  refine (letter_any x _).mono ?_
  rintro e w' ⟨rfl, hw⟩
  rw [hw, hle]
  clear hw
  by_cases h62 : y = 62
  · have h62' : ((y.toNat : Int) == 62) = true := eq_yes y 62 (by decide) h62
    clear h62 h1
    go_wp2
    go_ret2
    exact ⟨ret_two (by rw [← HN.out]; rfl), S2.out.2.1⟩
  · have h62' : ((y.toNat : Int) == 62) = false := eq_no y 62 (by decide) h62
    have h45y : ((y.toNat : Int) == 45) = true := eq_yes y 45 (by decide) (by rcases h1 with h | h; exact absurd h h62; exact h)
    clear h62 h1
    go_wp2
    go_ret2
    exact ⟨ret_two (by rw [← HN.out]; rfl), S2.out.2.1⟩

end Go.Proofs.Qxb6604796a
