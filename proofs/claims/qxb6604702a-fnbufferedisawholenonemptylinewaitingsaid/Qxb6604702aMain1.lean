/-
  THE FIRST LAW's OWN WALK (5).
-/
import Derived.Test.Qxb6604702aFeed
namespace Go.Proofs.Qxb6604702a
open Go.RowKit

theorem whole_of (s : ByteArray) (h0 : 0 < s.size) (h : s[s.size - 1] = 10) : Plain.Whole s.data.toList := by
  have hl := size_len s
  refine .inr ⟨s.data.toList.take (s.size - 1), ?_⟩
  have hlt : s.size - 1 < s.data.toList.length := by omega
  have e1 : s.data.toList.drop (s.size - 1) = [10] := by
    rw [List.drop_eq_getElem_cons hlt, List.drop_of_length_le (by omega)]
    exact congrArg (fun c => [c]) h
  rw [← e1, List.take_append_drop]
theorem whole_empty (s : ByteArray) (h0 : s.size = 0) : Plain.Whole s.data.toList := .inl (List.length_eq_zero_iff.1 (by rw [size_len]; exact h0))

set_option maxHeartbeats 400000 in
theorem walk1_long (x y : Bool) (s t : ByteArray) (w : World) (h1 : s.size ≤ maxLen) (h2 : t.size ≤ maxLen) (hs : ¬ s.size + t.size ≤ 1048576) :
    Calls Try.prog 5 #[.bool x, .string s, .string t, .bool y] w fun e w' => e = .returned (.bool true) ∧ Below w.heap.size w w' := by
  go_enter Try.func5, Try.ntmps5
  go_wp2_with (go_at_call 17; refine (bytes_no _ _ _ _ _ h1 h2 hs).mono ?_; rintro e w' ⟨rfl, hw⟩; rw [hw]; clear hw)
  go_ret
  exact ⟨rfl, Below.refl _ _⟩

set_option maxHeartbeats 400000 in
theorem walk1_cut (x y : Bool) (s t : ByteArray) (w : World) (hs : s.size + t.size ≤ 1048576) (h0 : 0 < s.size) (h : ¬ s[s.size - 1] = 10) :
    Calls Try.prog 5 #[.bool x, .string s, .string t, .bool y] w fun e w' => e = .returned (.bool true) ∧ Below w.heap.size w w' := by
  have g1 : ¬ (1048576 : Int) < (s.size : Int) := by omega
  have g2 : ¬ (1048576 : Int) < (t.size : Int) := by omega
  have g3 : ¬ (1048576 : Int) < (s.size : Int) + (t.size : Int) := by omega
  have hse : s.toList.isEmpty = false := by rw [is_empty]; exact decide_eq_false (by omega)
  obtain ⟨c, hc⟩ : ∃ c, s[s.size - 1] = c := ⟨_, rfl⟩
  rw [hc] at h
  have hne : ((c.toNat : Int) != 10) = true := by
    rw [bne_iff_ne]
    intro e
    exact h (is_of c 10 (by decide) (beq_iff_eq.2 e))
  clear h
  go_enter Try.func5, Try.ntmps5
  go_wp2_with (go_at_call 17; refine (bytes_yes _ _ _ _ _ hs).mono ?_; rintro e w' ⟨rfl, hw⟩; rw [hw]; clear hw)
  go_ret
  exact ⟨rfl, Below.refl _ _⟩

set_option maxHeartbeats 1000000 in
theorem walk1_whole (x y : Bool) (s t : ByteArray) (w : World) (hs : s.size + t.size ≤ 1048576) (h : s.size = 0 ∨ ∃ h : 0 < s.size, s[s.size - 1] = 10) :
    Calls Try.prog 5 #[.bool x, .string s, .string t, .bool y] w fun e w' => e = .returned (.bool true) ∧ Below w.heap.size w w' := by
  have g1 : ¬ (1048576 : Int) < (s.size : Int) := by omega
  have g2 : ¬ (1048576 : Int) < (t.size : Int) := by omega
  have g3 : ¬ (1048576 : Int) < (s.size : Int) + (t.size : Int) := by omega
  have HWh : Hid (Plain.Whole s.data.toList) := by
    rcases h with h | ⟨h0, h⟩
    · exact whole_empty s h
    · exact whole_of s h0 h
  have HA : Hid (ans x s t y = (x && ((!t.toList.isEmpty && !y) || !Plain.only s.data.toList))) := by
    show _ = _
    have e : decide (0 < t.size) = !t.toList.isEmpty := by
      rw [is_empty]
      by_cases h : t.size = 0
      · simp [h]
      · simp [h]; omega
    rw [ans, Plain.buf_whole HWh.out, e]
  have hss : s.size ≤ 1048576 := by omega
  have hss' : s.size ≤ 1048579 := by omega
  clear HWh
  rcases h with h | ⟨h0, h⟩
  · have hse : s.toList.isEmpty = true := by rw [is_empty]; exact decide_eq_true h
    clear h
    cases x <;> cases y <;> cases hte : t.toList.isEmpty
    all_goals
      rw [hte] at HA
      go_enter Try.func5, Try.ntmps5
      go_wp2_with (go_at_call 17; refine (bytes_yes _ _ _ _ _ hs).mono ?_; rintro e w' ⟨rfl, hw⟩; rw [hw]; clear hw)
      first
        | (go_ret; exact ⟨rfl, Below.refl _ _⟩)
        | (refine (new_any _ _ _ _ _).mono ?_
           rintro e w1 ⟨rfl, h1, h2, h3, h4, hb⟩
           have HF : Hid (Feed w1 w.heap.size _ s t _) := ⟨h1, h2, h3, h4⟩
           clear h1 h2 h3 h4
           go_wp2_with (first
             | (go_at_call 19; refine (only_any _ _ hss).mono ?_; rintro e w' ⟨rfl, hw⟩; rw [hw]; clear hw)
             | (go_at_call 20; refine (zbuffered_any w.heap.size _ s t _ _ hss' HF.out).mono ?_; rintro e w' ⟨rfl, hw⟩; rw [hw]; clear hw))
           go_ret
           exact ⟨ret_bool (by rw [HA.out]; simp), hb⟩)
  · have hse : s.toList.isEmpty = false := by rw [is_empty]; exact decide_eq_false (by omega)
    cases x <;> cases y <;> cases hte : t.toList.isEmpty
    all_goals
      rw [hte] at HA
      go_enter Try.func5, Try.ntmps5
      go_wp2_with (go_at_call 17; refine (bytes_yes _ _ _ _ _ hs).mono ?_; rintro e w' ⟨rfl, hw⟩; rw [hw]; clear hw)
      first
        | (go_ret; exact ⟨rfl, Below.refl _ _⟩)
        | (refine (new_any _ _ _ _ _).mono ?_
           rintro e w1 ⟨rfl, h1, h2, h3, h4, hb⟩
           have HF : Hid (Feed w1 w.heap.size _ s t _) := ⟨h1, h2, h3, h4⟩
           clear h1 h2 h3 h4
           go_wp2_with (first
             | (go_at_call 19; refine (only_any _ _ hss).mono ?_; rintro e w' ⟨rfl, hw⟩; rw [hw]; clear hw)
             | (go_at_call 20; refine (zbuffered_any w.heap.size _ s t _ _ hss' HF.out).mono ?_; rintro e w' ⟨rfl, hw⟩; rw [hw]; clear hw))
           go_ret
           exact ⟨ret_bool (by rw [HA.out]; simp), hb⟩)
end Go.Proofs.Qxb6604702a
