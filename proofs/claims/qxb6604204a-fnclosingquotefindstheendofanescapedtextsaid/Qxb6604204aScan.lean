/-
  WALKS: zzScanQuote (11), closingQuote (18), ZZclosingQuote (10).
-/
import Derived.Test.Qxb6604204aClone
import Derived.Test.Qxb6604204aPlain
import Derived.Test.Qxb6604204aShelf
namespace Go.Proofs.Qxb6604204a
open Go.RowKit

theorem drop_at (t : ByteArray) (k : Nat) (h : k < t.size) : t.data.toList.drop k = t[k] :: t.data.toList.drop (k + 1) := by
  rw [List.drop_eq_getElem_cons (by simpa using h)]
  rfl
theorem is_of (c : UInt8) (n : Nat) (hn : n < 256) (h : ((c.toNat : Int) == n) = true) : c = UInt8.ofNat n := by
  rw [beq_iff_eq] at h
  rw [← UInt8.toNat_inj, UInt8.toNat_ofNat']
  omega
theorem not_of (c : UInt8) (n : Nat) (hn : n < 256) (h : ((c.toNat : Int) == n) = false) : c ≠ UInt8.ofNat n := by
  rw [beq_eq_false_iff_ne] at h
  intro e
  apply h
  rw [e, UInt8.toNat_ofNat']
  omega

theorem s_hit (t : ByteArray) (k : Nat) (h : k < t.size) (h1 : ((t[k].toNat : Int) == 34) = true) : Plain.scan (t.data.toList.drop k) k = k := by
  rw [drop_at t k h, is_of _ 34 (by decide) h1]
  cases t.data.toList.drop (k + 1) <;> simp [Plain.scan]
theorem s_esc (t : ByteArray) (k : Nat) (h : k < t.size) (h1 : ((t[k].toNat : Int) == 92) = true) : Plain.scan (t.data.toList.drop k) k = Plain.scan (t.data.toList.drop (k + 2)) (k + 2) := by
  rw [drop_at t k h, is_of _ 92 (by decide) h1]
  by_cases h2 : k + 1 < t.size
  · rw [drop_at t (k + 1) h2]
    simp [Plain.scan]
  · rw [List.drop_of_length_le (by rw [size_len]; omega), List.drop_of_length_le (by rw [size_len]; omega)]
    simp [Plain.scan]
theorem s_step (t : ByteArray) (k : Nat) (h : k < t.size) (h1 : ((t[k].toNat : Int) == 34) = false) (h2 : ((t[k].toNat : Int) == 92) = false) : Plain.scan (t.data.toList.drop k) k = Plain.scan (t.data.toList.drop (k + 1)) (k + 1) := by
  rw [drop_at t k h]
  have n1 : t[k] ≠ 34 := not_of _ 34 (by decide) h1
  have n2 : t[k] ≠ 92 := not_of _ 92 (by decide) h2
  cases e : t.data.toList.drop (k + 1) with
  | nil => simp only [Plain.scan]; rw [if_neg n1]
  | cons d l => simp only [Plain.scan]; rw [if_neg n1, if_neg n2]

theorem scan_nil (w : World) : Calls Try.prog 11 #[.slice none 0 0] w fun e w' => e = .returned (.int .i64 (-1)) ∧ w' = w := by
  go_enter Try.func11, Try.ntmps11
  go_wp2
  go_loop [3] (fun i => i = .int .i64 0) (fun _ => 0)
  case atStart => rfl
  case round =>
    subst hrel
    go_wp2
    go_ret
    exact ⟨rfl, rfl⟩

set_option maxHeartbeats 400000 in
theorem scan_some (b o c : Nat) (s : ByteArray) (w : World) (hs : s.size ≤ 1048576) (hb : Lib.Bytes w b o s) :
    Calls Try.prog 11 #[.slice (some ⟨b, o, none⟩) s.size c] w fun e w' => e = .returned (.int .i64 (Plain.scan s.data.toList 0)) ∧ w' = w := by
  have HB : Hid (Lib.Bytes w b o s) := hb
  clear hb
  go_enter Try.func11, Try.ntmps11
  go_wp2
  go_loop [3] (fun i => ∃ k : Nat, k ≤ s.size + 1 ∧ i = .int .i64 k ∧ Plain.scan (s.data.toList.drop k) k = Plain.scan s.data.toList 0) (fun i => s.size + 1 - (intOf i).toNat)
  case atStart => exact ⟨0, Nat.zero_le _, rfl, rfl⟩
  case round =>
    obtain ⟨k, hk, rfl, hu⟩ := hrel
    have HU : Hid (Plain.scan (s.data.toList.drop k) k = Plain.scan s.data.toList 0) := hu
    clear hu
    by_cases hlt : k < s.size
    · have hck : w.cell? ⟨b, o + k, none⟩ = some (.int .u8 (s[k].toNat : Int)) := HB.out k hlt
      go_wp2
      · go_ret
        exact ⟨ret_int (by rw [← HU.out, s_hit s k hlt ‹_›]), rfl⟩
      · have g := s_esc s k hlt ‹_›
        go_round
        case rel => exact ⟨k + 2, by omega, by go_num, by rw [← g, HU.out]⟩
        case measure => simp [intOf]; omega
      · have g := s_step s k hlt ‹_› ‹_›
        go_round
        case rel => exact ⟨k + 1, by omega, by go_num, by rw [← g, HU.out]⟩
        case measure => simp [intOf]; omega
    · go_wp2
      go_ret
      exact ⟨ret_int (by rw [← HU.out, List.drop_of_length_le (by rw [size_len]; omega)]; rfl), rfl⟩

theorem idx_none (x : Addr) (c : Nat) (w : World) :
    Calls Try.prog 24 #[.slice (some x) 0 c, .int .u8 34] w fun e w' => e = .returned (.int .i64 (-1)) ∧ w' = w :=
  Try.bytes_IndexByte_at x 0 c [] 34 w rfl (fun _ h => absurd h (Nat.not_lt_zero _))

theorem idx_at (b o c k : Nat) (s : ByteArray) (w : World) (hb : Lib.Bytes w b o s) (hk : k ≤ s.size) :
    Calls Try.prog 24 #[.slice (some ⟨b, o + k, none⟩) (s.size - k) c, .int .u8 34] w fun e w' => e = .returned (.int .i64 (Lib.indexByte (s.data.toList.drop k) 34)) ∧ w' = w := by
  have hz : (s.extract k s.size).size = s.size - k := by simp
  have hl : (s.extract k s.size).data.toList = s.data.toList.drop k := by
    rw [ByteArray.data_extract, Array.toList_extract]
    simp
    rw [List.take_of_length_le (by simp)]
  have h := Try.bytes_IndexByte_bytes b (o + k) c (s.extract k s.size) 34 w (fun i hi => by
    have hi' : k + i < s.size := by omega
    have e := hb (k + i) hi'
    rw [show o + k + i = o + (k + i) from by omega, e]
    simp [ByteArray.getElem_extract])
  rw [hz, hl] at h
  exact h

/-- What IndexByte's answer tells of the whole. -/
theorem idx_facts (l : List UInt8) (k : Nat) (I : Int) (h : Lib.indexByte (l.drop k) 34 = I) :
    (I = -1 ∧ ∀ j, k ≤ j → l[j]? ≠ some 34) ∨ ∃ n : Nat, I = n ∧ l[k + n]? = some 34 ∧ k + n < l.length ∧ ∀ j, k ≤ j → j < k + n → l[j]? ≠ some 34 := by
  have hge := Lib.indexByte_ge (l.drop k) 34
  rw [h] at hge
  by_cases h0 : I = -1
  · refine .inl ⟨h0, fun j hj => ?_⟩
    have := Lib.indexByte_none (h.trans h0) (j - k)
    rw [List.getElem?_drop, show k + (j - k) = j from by omega] at this
    exact this
  · obtain ⟨n, rfl⟩ := Int.eq_ofNat_of_zero_le (by omega : 0 ≤ I)
    obtain ⟨h1, h2⟩ := Lib.indexByte_some h
    rw [List.getElem?_drop] at h1
    refine .inr ⟨n, rfl, h1, ?_, fun j hj hjn => ?_⟩
    · rcases Nat.lt_or_ge (k + n) l.length with h | h
      · exact h
      · rw [List.getElem?_eq_none h] at h1; cases h1
    · have := h2 (j - k) (by omega)
      rw [List.getElem?_drop, show k + (j - k) = j from by omega] at this
      exact this

theorem get_list (s : ByteArray) (k : Nat) (h : k < s.size) : s.data.toList[k]? = some s[k] := by
  rw [List.getElem?_eq_getElem (by simpa using h)]
  rfl

theorem e_hit (t : ByteArray) (k : Nat) (h : k < t.size) (h1 : ((t[k].toNat : Int) == 92) = true) : Plain.esc t.data.toList (k + 1) = Plain.esc t.data.toList k + 1 :=
  Plain.esc_hit (by rw [get_list t k h, is_of _ 92 (by decide) h1]; rfl)
theorem e_miss (t : ByteArray) (k : Nat) (h : k < t.size) (h1 : ((t[k].toNat : Int) == 92) = false) : Plain.esc t.data.toList (k + 1) = 0 :=
  Plain.esc_miss (by rw [get_list t k h]; intro e; exact not_of _ 92 (by decide) h1 (Option.some.inj e))

theorem fin_hit {l : List UInt8} {k n m : Nat} (ho : Plain.Odd l (k + n) ∧ l[k + n]? = some 34) (he : Plain.esc l (k + n) = m) (h : ((m : Int) % 2 == 0) = true) : (k : Int) + n = Plain.scan l 0 := by
  rw [beq_iff_eq] at h
  rw [Plain.scan_at ho.2 (by rw [he]; omega) ho.1]
  omega
theorem fin_odd {l : List UInt8} {k n m : Nat} (ho : Plain.Odd l (k + n) ∧ l[k + n]? = some 34) (he : Plain.esc l (k + n) = m) (h : ((m : Int) % 2 == 0) = false) : Plain.Odd l (k + n + 1) := by
  rw [beq_eq_false_iff_ne] at h
  exact Plain.odd_succ ho.1 (fun _ => by rw [he]; omega)

set_option maxHeartbeats 1000000 in
theorem closing_some (b o c : Nat) (s : ByteArray) (w : World) (hs : s.size ≤ 1048576) (hc : s.size ≤ c) (hb : Lib.Bytes w b o s) :
    Calls Try.prog 18 #[.slice (some ⟨b, o, none⟩) s.size c] w fun e w' => e = .returned (.int .i64 (Plain.scan s.data.toList 0)) ∧ w' = w := by
  have HB : Hid (Lib.Bytes w b o s) := hb
  clear hb
  go_enter Try.func18, Try.ntmps18
  go_wp2_with fail
  go_loop [3] (fun i => ∃ k : Nat, k ≤ s.size ∧ i = .int .i64 k ∧ Plain.Odd s.data.toList k) (fun i => s.size + 1 - (intOf i).toNat)
  case atStart => exact ⟨0, Nat.zero_le _, rfl, Plain.odd_zero _⟩
  case round =>
    obtain ⟨k, hk, rfl, hu⟩ := hrel
    have HU : Hid (Plain.Odd s.data.toList k) := hu
    clear hu
    by_cases hkc : k = c
    · have hks : s.size - k = 0 := by omega
      have HF : Hid (Plain.scan s.data.toList 0 = -1) := Plain.scan_none (by rw [size_len, show s.size = k from by omega]; exact HU.out)
      go_wp2_with (go_at_call 24; refine (idx_none _ _ _).mono ?_; rintro e w' ⟨rfl, hw⟩; rw [hw]; clear hw)
      go_ret
      exact ⟨ret_int HF.out.symm, rfl⟩
    · go_wp2_with fail
      refine (idx_at b o _ k s w HB.out hk).mono ?_
      rintro e w' ⟨rfl, hw⟩
      rw [hw]
      clear hw
      obtain ⟨I, hI⟩ : ∃ I, Lib.indexByte (s.data.toList.drop k) 34 = I := ⟨_, rfl⟩
      have hf := idx_facts s.data.toList k I hI
      rw [hI]
      clear hI
      rcases hf with ⟨rfl, hno⟩ | ⟨n, rfl, h34, hlt, hno⟩
      · have HF : Hid (Plain.scan s.data.toList 0 = -1) := Plain.scan_none (Plain.odd_skip HU.out (fun j h1 _ => hno j h1))
        clear hno
        go_wp2
        go_ret
        exact ⟨ret_int HF.out.symm, rfl⟩
      · rw [size_len] at hlt
        have HO : Hid (Plain.Odd s.data.toList (k + n) ∧ s.data.toList[k + n]? = some 34) := ⟨Plain.odd_skip HU.out hno, h34⟩
        clear hno h34
        go_wp2_with fail
        go_loop [5, 6] (fun e j => ∃ m r : Nat, m + r = k + n ∧ e = .int .i64 m ∧ j = .int .i64 ((r : Int) - 1) ∧ Plain.esc s.data.toList (k + n) = m + Plain.esc s.data.toList r) (fun _ j => (intOf j + 1).toNat)
        case atStart => exact ⟨0, k + n, by omega, rfl, by simp, by simp⟩
        case round =>
          obtain ⟨m, r, hmr, rfl, rfl, he⟩ := hrel
          have HE : Hid (Plain.esc s.data.toList (k + n) = m + Plain.esc s.data.toList r ∧ m + r = k + n) := ⟨he, hmr⟩
          have hmb : m ≤ k + n := by omega
          have hrb : r ≤ k + n := by omega
          clear he hmr
          cases r with
          | zero =>
            have HM : Hid (Plain.esc s.data.toList (k + n) = m) := by
              have := HE.out.1
              show _ = _
              simpa [Plain.esc] using this
            go_wp2_with fail
            · go_ret
              exact ⟨ret_int (fin_hit HO.out HM.out ‹_›), rfl⟩
            · have g := fin_odd HO.out HM.out ‹_›
              go_round
              case rel => exact ⟨k + n + 1, by omega, by go_num, g⟩
              case measure => simp [intOf]; omega
          | succ r =>
            rw [show (((r + 1 : Nat) : Int) - 1) = (r : Int) from by omega]
            have hrs : r < s.size := by omega
            have hcr : w.cell? ⟨b, o + r, none⟩ = some (.int .u8 (s[r].toNat : Int)) := HB.out r hrs
            go_wp2_with fail
            · have g := e_hit s r hrs ‹_›
              obtain ⟨g1, g2⟩ := HE.out
              go_round
              case rel => exact ⟨m + 1, r, by omega, by go_num, rfl, by omega⟩
              case measure => simp [intOf]
            · have g := e_miss s r hrs ‹_›
              have HM : Plain.esc s.data.toList (k + n) = m := by have := HE.out.1; omega
              go_ret
              exact ⟨ret_int (fin_hit HO.out HM ‹_›), rfl⟩
            · have g := e_miss s r hrs ‹_›
              have HM : Plain.esc s.data.toList (k + n) = m := by have := HE.out.1; omega
              have g := fin_odd HO.out HM ‹_›
              go_round
              case rel => exact ⟨k + n + 1, by omega, by go_num, g⟩
              case measure => simp [intOf]; omega

set_option maxHeartbeats 1000000 in
theorem closing_nil (w : World) :
    Calls Try.prog 18 #[.slice none 0 0] w fun e w' => e = .returned (.int .i64 (-1)) ∧ w' = w := by
  go_enter Try.func18, Try.ntmps18
  go_wp2_with fail
  go_loop [3] (fun i => i = .int .i64 0) (fun _ => 0)
  case atStart => rfl
  case round =>
    subst hrel
    go_wp2_with (go_at_call 24; refine (Try.bytes_IndexByte_nil _ _).mono ?_; rintro e w' ⟨rfl, hw⟩; rw [hw]; clear hw)
    go_ret
    exact ⟨rfl, rfl⟩

theorem zclosing_nil (w : World) :
    Calls Try.prog 10 #[.slice none 0 0] w fun e w' => e = .returned (.int .i64 (-1)) ∧ w' = w := by
  go_enter Try.func10, Try.ntmps10
  go_wp2_with (go_at_call 18; refine (closing_nil _).mono ?_; rintro e w' ⟨rfl, hw⟩; rw [hw]; clear hw)
  go_ret
  exact ⟨rfl, rfl⟩

theorem zclosing_some (b o c : Nat) (s : ByteArray) (w : World) (hs : s.size ≤ 1048576) (hc : s.size ≤ c) (hb : Lib.Bytes w b o s) :
    Calls Try.prog 10 #[.slice (some ⟨b, o, none⟩) s.size c] w fun e w' => e = .returned (.int .i64 (Plain.scan s.data.toList 0)) ∧ w' = w := by
  have HB : Hid (Lib.Bytes w b o s) := hb
  clear hb
  go_enter Try.func10, Try.ntmps10
  go_wp2_with (go_at_call 18; refine (closing_some b o c s _ hs hc HB.out).mono ?_; rintro e w' ⟨rfl, hw⟩; rw [hw]; clear hw)
  go_ret
  exact ⟨rfl, rfl⟩
end Go.Proofs.Qxb6604204a
