/-
  THE SECOND LAW's OWN WALK (6).
-/
import Derived.Test.Qxb6604702aMain1
namespace Go.Proofs.Qxb6604702a
open Go.RowKit

set_option maxHeartbeats 400000 in
theorem walk2_long (s t : ByteArray) (w : World) (h1 : s.size ≤ maxLen) (h2 : t.size ≤ maxLen) (hs : ¬ s.size + t.size ≤ 1048576) :
    Calls Try.prog 6 #[.string s, .string t] w fun e w' => e = .returned (.bool true) ∧ Below w.heap.size w w' := by
  go_enter Try.func6, Try.ntmps6
  go_wp2_with (go_at_call 21; refine (bytes2_no _ _ _ h1 h2 hs).mono ?_; rintro e w' ⟨rfl, hw⟩; rw [hw]; clear hw)
  go_ret
  exact ⟨rfl, Below.refl _ _⟩

set_option maxHeartbeats 400000 in
theorem walk2_cut (s t : ByteArray) (w : World) (hs : s.size + t.size ≤ 1048576) (h0 : 0 < s.size) (h : ¬ s[s.size - 1] = 10) :
    Calls Try.prog 6 #[.string s, .string t] w fun e w' => e = .returned (.bool true) ∧ Below w.heap.size w w' := by
  have g1 : ¬ (1048576 : Int) < (s.size : Int) := by omega
  have g2 : ¬ (1048576 : Int) < (t.size : Int) := by omega
  have g3 : ¬ (1048576 : Int) < (s.size : Int) + (t.size : Int) := by omega
  have hse : s.toList.isEmpty = false := by rw [is_empty]; exact decide_eq_false (by omega)
  obtain ⟨c, hc⟩ : ∃ c, s[s.size - 1] = c := ⟨_, rfl⟩
  rw [hc] at h
  have hne : ((c.toNat : Int) != 10) = true := by
    rw [bne_iff_ne]
    intro e
    exact h (is_of c 10 (by decide) (beq_iff_eq.2 e))
  clear h
  go_enter Try.func6, Try.ntmps6
  go_wp2_with (go_at_call 21; refine (bytes2_yes _ _ _ hs).mono ?_; rintro e w' ⟨rfl, hw⟩; rw [hw]; clear hw)
  go_ret
  exact ⟨rfl, Below.refl _ _⟩

theorem app_list (s t : ByteArray) : (s ++ t).data.toList = s.data.toList ++ t.data.toList := by simp
theorem app_size (s t : ByteArray) : (s ++ t).size = s.size + t.size := by simp

/-- The six calls of bufferedOneLine. -/
theorem call_join (s t : ByteArray) (w : World) (hs : s.size + t.size ≤ 1048576) (hw : Plain.Whole s.data.toList) :
    Calls Try.prog 22 #[.string (s ++ t)] w fun e w' => e = .returned (.bool (Plain.buf s.data.toList || Plain.buf t.data.toList)) ∧ Below w.heap.size w w' := by
  have h := oneline_any (s ++ t) w (by rw [app_size]; omega)
  rw [app_list, Plain.buf_join _ hw] at h
  exact h
theorem call_ends (s : ByteArray) (w : World) (hs : s.size ≤ 1048576) (hw : Plain.Whole s.data.toList) :
    Calls Try.prog 22 #[.string (s ++ ⟨#[13, 10, 10]⟩)] w fun e w' => e = .returned (.bool (Plain.buf s.data.toList)) ∧ Below w.heap.size w w' := by
  have h := oneline_any (s ++ ⟨#[13, 10, 10]⟩) w (by rw [app_size]; show s.size + 3 ≤ _; omega)
  rw [app_list, show (⟨#[13, 10, 10]⟩ : ByteArray).data.toList = [13, 10, 10] from rfl, Plain.buf_ends hw] at h
  exact h
theorem call_x (s : ByteArray) (w : World) (hs : s.size ≤ 1048576) (hw : Plain.Whole s.data.toList) :
    Calls Try.prog 22 #[.string (s ++ ⟨#[120, 10]⟩)] w fun e w' => e = .returned (.bool true) ∧ Below w.heap.size w w' := by
  have h := oneline_any (s ++ ⟨#[120, 10]⟩) w (by rw [app_size]; show s.size + 2 ≤ _; omega)
  rw [app_list, show (⟨#[120, 10]⟩ : ByteArray).data.toList = [120, 10] from rfl, Plain.buf_x hw] at h
  exact h
theorem below_step {w w1 w2 : World} (h : Below w.heap.size w w1) (k : Below w1.heap.size w1 w2) : Below w.heap.size w w2 := h.trans (k.mono h.size)

set_option maxHeartbeats 1000000 in
theorem walk2_whole (s t : ByteArray) (w : World) (hs : s.size + t.size ≤ 1048576) (h : s.size = 0 ∨ ∃ h : 0 < s.size, s[s.size - 1] = 10) :
    Calls Try.prog 6 #[.string s, .string t] w fun e w' => e = .returned (.bool true) ∧ Below w.heap.size w w' := by
  have g1 : ¬ (1048576 : Int) < (s.size : Int) := by omega
  have g2 : ¬ (1048576 : Int) < (t.size : Int) := by omega
  have g3 : ¬ (1048576 : Int) < (s.size : Int) + (t.size : Int) := by omega
  have HWh : Hid (Plain.Whole s.data.toList) := by
    rcases h with h | ⟨h0, h⟩
    · exact whole_empty s h
    · exact whole_of s h0 h
  obtain ⟨B, hB⟩ : ∃ B, Plain.buf t.data.toList = B := ⟨_, rfl⟩
  obtain ⟨A, hA⟩ : ∃ A, Plain.buf s.data.toList = A := ⟨_, rfl⟩
  have HJ : Hid (∀ w, Calls Try.prog 22 #[.string (s ++ t)] w fun e w' => e = .returned (.bool (A || B)) ∧ Below w.heap.size w w') := fun w => by
    have := call_join s t w hs HWh.out
    rwa [hA, hB] at this
  have HS : Hid (∀ w, Calls Try.prog 22 #[.string s] w fun e w' => e = .returned (.bool A) ∧ Below w.heap.size w w') := fun w => by
    have := oneline_any s w (by omega)
    rwa [hA] at this
  have HT : Hid (∀ w, Calls Try.prog 22 #[.string t] w fun e w' => e = .returned (.bool B) ∧ Below w.heap.size w w') := fun w => by
    have := oneline_any t w (by omega)
    rwa [hB] at this
  have HE : Hid (∀ w, Calls Try.prog 22 #[.string (s ++ ⟨#[13, 10, 10]⟩)] w fun e w' => e = .returned (.bool A) ∧ Below w.heap.size w w') := fun w => by
    have := call_ends s w (by omega) HWh.out
    rwa [hA] at this
  have HXX : Hid (∀ w, Calls Try.prog 22 #[.string (s ++ ⟨#[120, 10]⟩)] w fun e w' => e = .returned (.bool true) ∧ Below w.heap.size w w') := fun w => call_x s w (by omega) HWh.out
  clear hA hB HWh
  rcases h with h | ⟨h0, h⟩
  · have hse : s.toList.isEmpty = true := by rw [is_empty]; exact decide_eq_true h
    clear h
    cases A
    · go_enter Try.func6, Try.ntmps6
      go_wp2_with (go_at_call 21; refine (bytes2_yes _ _ _ hs).mono ?_; rintro e w' ⟨rfl, hw⟩; rw [hw]; clear hw)
      refine (HJ.out w).mono ?_
      rintro e w1 ⟨rfl, b1⟩
      go_wp2_with fail
      refine (HS.out w1).mono ?_
      rintro e w2 ⟨rfl, b2⟩
      replace b2 := below_step b1 b2
      clear b1
      go_wp2_with fail
      refine (HT.out w2).mono ?_
      rintro e w3 ⟨rfl, b3⟩
      replace b3 := below_step b2 b3
      clear b2
      cases B
      all_goals
        go_wp2_with fail
        refine (HE.out w3).mono ?_
        rintro e w4 ⟨rfl, b4⟩
        replace b4 := below_step b3 b4
        clear b3
        go_wp2_with fail
        refine (HS.out w4).mono ?_
        rintro e w5 ⟨rfl, b5⟩
        replace b5 := below_step b4 b5
        clear b4
        go_wp2_with fail
        refine (HXX.out w5).mono ?_
        rintro e w6 ⟨rfl, b6⟩
        replace b6 := below_step b5 b6
        clear b5
        go_wp2
        go_ret
        exact ⟨rfl, b6⟩
    · go_enter Try.func6, Try.ntmps6
      go_wp2_with (go_at_call 21; refine (bytes2_yes _ _ _ hs).mono ?_; rintro e w' ⟨rfl, hw⟩; rw [hw]; clear hw)
      refine (HJ.out w).mono ?_
      rintro e w1 ⟨rfl, b1⟩
      go_wp2_with fail
      refine (HS.out w1).mono ?_
      rintro e w3 ⟨rfl, b3⟩
      replace b3 := below_step b1 b3
      clear b1
      go_wp2_with fail
      refine (HE.out w3).mono ?_
      rintro e w4 ⟨rfl, b4⟩
      replace b4 := below_step b3 b4
      clear b3
      go_wp2_with fail
      refine (HS.out w4).mono ?_
      rintro e w5 ⟨rfl, b5⟩
      replace b5 := below_step b4 b5
      clear b4
      go_wp2_with fail
      refine (HXX.out w5).mono ?_
      rintro e w6 ⟨rfl, b6⟩
      replace b6 := below_step b5 b6
      clear b5
      go_wp2
      go_ret
      exact ⟨rfl, b6⟩
  · have hse : s.toList.isEmpty = false := by rw [is_empty]; exact decide_eq_false (by omega)
    cases A
    · go_enter Try.func6, Try.ntmps6
      go_wp2_with (go_at_call 21; refine (bytes2_yes _ _ _ hs).mono ?_; rintro e w' ⟨rfl, hw⟩; rw [hw]; clear hw)
      refine (HJ.out w).mono ?_
      rintro e w1 ⟨rfl, b1⟩
      go_wp2_with fail
      refine (HS.out w1).mono ?_
      rintro e w2 ⟨rfl, b2⟩
      replace b2 := below_step b1 b2
      clear b1
      go_wp2_with fail
      refine (HT.out w2).mono ?_
      rintro e w3 ⟨rfl, b3⟩
      replace b3 := below_step b2 b3
      clear b2
      cases B
      all_goals
        go_wp2_with fail
        refine (HE.out w3).mono ?_
        rintro e w4 ⟨rfl, b4⟩
        replace b4 := below_step b3 b4
        clear b3
        go_wp2_with fail
        refine (HS.out w4).mono ?_
        rintro e w5 ⟨rfl, b5⟩
        replace b5 := below_step b4 b5
        clear b4
        go_wp2_with fail
        refine (HXX.out w5).mono ?_
        rintro e w6 ⟨rfl, b6⟩
        replace b6 := below_step b5 b6
        clear b5
        go_wp2
        go_ret
        exact ⟨rfl, b6⟩
    · go_enter Try.func6, Try.ntmps6
      go_wp2_with (go_at_call 21; refine (bytes2_yes _ _ _ hs).mono ?_; rintro e w' ⟨rfl, hw⟩; rw [hw]; clear hw)
      refine (HJ.out w).mono ?_
      rintro e w1 ⟨rfl, b1⟩
      go_wp2_with fail
      refine (HS.out w1).mono ?_
      rintro e w3 ⟨rfl, b3⟩
      replace b3 := below_step b1 b3
      clear b1
      go_wp2_with fail
      refine (HE.out w3).mono ?_
      rintro e w4 ⟨rfl, b4⟩
      replace b4 := below_step b3 b4
      clear b3
      go_wp2_with fail
      refine (HS.out w4).mono ?_
      rintro e w5 ⟨rfl, b5⟩
      replace b5 := below_step b4 b5
      clear b4
      go_wp2_with fail
      refine (HXX.out w5).mono ?_
      rintro e w6 ⟨rfl, b6⟩
      replace b6 := below_step b5 b6
      clear b5
      go_wp2
      go_ret
      exact ⟨rfl, b6⟩
end Go.Proofs.Qxb6604702a
