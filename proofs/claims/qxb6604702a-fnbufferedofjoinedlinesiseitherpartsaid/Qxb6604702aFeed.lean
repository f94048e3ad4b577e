/-
  WALKS: ZZnewLineFeed (18), buffered (28), ZZlineFeedBuffered (20), bufferedOneLine (22).
-/
import Derived.Test.Qxb6604702aWalkA
namespace Go.Proofs.Qxb6604702a
open Go.RowKit

set_option maxHeartbeats 400000 in
theorem new_any (x y : Bool) (s t : ByteArray) (w : World) :
    Calls Try.prog 18 #[.bool x, .string s, .string t, .bool y] w fun e w' => e = .returned (.pointer (some ⟨w.heap.size, 0, none⟩)) ∧
      w'.cell? ⟨w.heap.size, 1, none⟩ = some (.bool x) ∧ w'.cell? ⟨w.heap.size, 3, none⟩ = some (.string s) ∧ w'.cell? ⟨w.heap.size, 5, none⟩ = some (.string t) ∧ w'.cell? ⟨w.heap.size, 6, none⟩ = some (.bool y) ∧ Below w.heap.size w w' := by
  go_enter Try.func18, Try.ntmps18
  go_wp2
  go_ret
  exact ⟨rfl, by rw [World.cell?_alloc_at _ _ _ _ rfl]; rfl, by rw [World.cell?_alloc_at _ _ _ _ rfl]; rfl, by rw [World.cell?_alloc_at _ _ _ _ rfl]; rfl, by rw [World.cell?_alloc_at _ _ _ _ rfl]; rfl, (Below.refl _ _).alloc (Nat.le_refl _) _⟩

/-- What IndexByte's answer tells of a text. -/
theorem idx_facts (T : ByteArray) (I : Int) (h : Lib.indexByte T.data.toList 10 = I) :
    (I = -1 ∧ 10 ∉ T.data.toList) ∨ ∃ n : Nat, I = n ∧ n + 1 ≤ T.size ∧ 10 ∉ T.data.toList.take n ∧ T.data.toList = T.data.toList.take n ++ 10 :: T.data.toList.drop (n + 1) := by
  have hge := Lib.indexByte_ge T.data.toList 10
  rw [h] at hge
  by_cases h0 : I = -1
  · refine .inl ⟨h0, fun hm => ?_⟩
    obtain ⟨i, hi, e⟩ := List.getElem_of_mem hm
    have := Lib.indexByte_none (h.trans h0) i
    rw [List.getElem?_eq_getElem hi, e] at this
    exact this rfl
  · obtain ⟨n, rfl⟩ := Int.eq_ofNat_of_zero_le (by omega : 0 ≤ I)
    obtain ⟨h1, h2⟩ := Lib.indexByte_some h
    have hlt : n < T.data.toList.length := by
      rcases Nat.lt_or_ge n T.data.toList.length with h | h
      · exact h
      · rw [List.getElem?_eq_none h] at h1; cases h1
    have hg : T.data.toList[n] = 10 := by rw [List.getElem?_eq_getElem hlt] at h1; exact Option.some.inj h1
    refine .inr ⟨n, rfl, by rw [size_len] at hlt; omega, fun hm => ?_, ?_⟩
    · obtain ⟨i, hi, e⟩ := List.getElem_of_mem hm
      have hin : i < n := by rw [List.length_take] at hi; omega
      have hil : i < T.data.toList.length := by omega
      rw [List.getElem_take] at e
      have := h2 i hin
      rw [List.getElem?_eq_getElem hil, e] at this
      exact this rfl
    · have e1 : T.data.toList.drop n = 10 :: T.data.toList.drop (n + 1) := by rw [List.drop_eq_getElem_cons hlt, hg]
      rw [← e1, List.take_append_drop]

theorem head_list (T : ByteArray) (n : Nat) : (T.extract 0 n).data.toList = T.data.toList.take n := by
  rw [ByteArray.data_extract, Array.toList_extract]
  simp
theorem rest_list (T : ByteArray) (n : Nat) : (T.extract n T.size).data.toList = T.data.toList.drop n := by
  rw [ByteArray.data_extract, Array.toList_extract]
  simp
  rw [List.take_of_length_le (by simp)]

/-- The line is not empty: something is buffered. -/
theorem line_no (T : ByteArray) (n : Nat) (h1 : 10 ∉ T.data.toList.take n) (h2 : T.data.toList = T.data.toList.take n ++ 10 :: T.data.toList.drop (n + 1)) (h3 : n + 1 ≤ T.size) :
    Plain.bare (T.extract 0 (n + 1)).data.toList = false → Plain.only (Plain.whole T.data.toList) = false := by
  have hl := size_len T
  have e : (T.extract 0 (n + 1)).data.toList = T.data.toList.take n ++ [10] := by
    rw [head_list]
    have hlen : (T.data.toList.take n).length = n := by rw [List.length_take]; omega
    conv => lhs; rw [h2]
    rw [List.take_append, hlen, List.take_of_length_le (by omega)]
    simp
  intro hb
  rw [e, Plain.bare_line] at hb
  rw [h2, Plain.only_line _ _ h1, if_neg (of_decide_eq_false hb)]
theorem line_yes (T : ByteArray) (n : Nat) (h1 : 10 ∉ T.data.toList.take n) (h2 : T.data.toList = T.data.toList.take n ++ 10 :: T.data.toList.drop (n + 1)) (h3 : n + 1 ≤ T.size) :
    Plain.bare (T.extract 0 (n + 1)).data.toList = true → Plain.only (Plain.whole (T.extract (n + 1) T.size).data.toList) = Plain.only (Plain.whole T.data.toList) := by
  have hl := size_len T
  have e : (T.extract 0 (n + 1)).data.toList = T.data.toList.take n ++ [10] := by
    rw [head_list]
    have hlen : (T.data.toList.take n).length = n := by rw [List.length_take]; omega
    conv => lhs; rw [h2]
    rw [List.take_append, hlen, List.take_of_length_le (by omega)]
    simp
  intro hb
  rw [e, Plain.bare_line] at hb
  rw [rest_list]
  conv => rhs; rw [h2]
  rw [Plain.only_line _ _ h1, if_pos (of_decide_eq_true hb)]

theorem hide_pair {p q : Prop} (h : p) (k : q) : Hid (p ∧ q) := ⟨h, k⟩

/-- A feed in memory. -/
def Feed (w : World) (b : Nat) (x : Bool) (s t : ByteArray) (y : Bool) : Prop :=
  w.cell? ⟨b, 1, none⟩ = some (.bool x) ∧ w.cell? ⟨b, 3, none⟩ = some (.string s) ∧ w.cell? ⟨b, 5, none⟩ = some (.string t) ∧ w.cell? ⟨b, 6, none⟩ = some (.bool y)

theorem is_empty (t : ByteArray) : t.toList.isEmpty = decide (t.size = 0) := by
  rw [Lib.toList_data, ← size_len]
  cases t.data.toList <;> simp

set_option maxHeartbeats 400000 in
theorem buffered_off (b : Nat) (s t : ByteArray) (y : Bool) (w : World) (hf : Feed w b false s t y) :
    Calls Try.prog 28 #[.pointer (some ⟨b, 0, none⟩)] w fun e w' => e = .returned (.bool false) ∧ w' = w := by
  obtain ⟨h1, h2, h3, h4⟩ := hf
  go_enter Try.func28, Try.ntmps28
  go_wp2
  go_ret
  exact ⟨rfl, rfl⟩

set_option maxHeartbeats 400000 in
theorem buffered_cut (b : Nat) (s t : ByteArray) (w : World) (ht : 0 < t.size) (hf : Feed w b true s t false) :
    Calls Try.prog 28 #[.pointer (some ⟨b, 0, none⟩)] w fun e w' => e = .returned (.bool true) ∧ w' = w := by
  obtain ⟨h1, h2, h3, h4⟩ := hf
  have hte : t.toList.isEmpty = false := by rw [is_empty]; exact decide_eq_false (by omega)
  go_enter Try.func28, Try.ntmps28
  go_wp2
  go_ret
  exact ⟨rfl, rfl⟩

set_option maxHeartbeats 1000000 in
theorem buffered_text (b : Nat) (s t : ByteArray) (y : Bool) (w : World) (hs : s.size ≤ 1048579) (ht : t.size = 0 ∨ y = true) (hf : Feed w b true s t y) :
    Calls Try.prog 28 #[.pointer (some ⟨b, 0, none⟩)] w fun e w' => e = .returned (.bool (Plain.buf s.data.toList)) ∧ w' = w := by
  obtain ⟨h1, h2, h3, h4⟩ := hf
  have hcase : t.toList.isEmpty = true ∨ (t.toList.isEmpty = false ∧ y = true) := by
    rw [is_empty]
    by_cases h : t.size = 0
    · exact .inl (by simp [h])
    · exact .inr ⟨by simp [h], by rcases ht with h' | h'; exact absurd h' h; exact h'⟩
  clear ht
  rcases hcase with hte | ⟨hte, rfl⟩
  all_goals
    go_enter Try.func28, Try.ntmps28
    go_wp2_with fail
    go_loopg [3] s.size (fun g v wx => wx = w ∧ ∃ T : ByteArray, T.size = g ∧ g ≤ s.size ∧ v = .string T ∧ Plain.only (Plain.whole T.data.toList) = Plain.only (Plain.whole s.data.toList))
    case atStart => exact ⟨rfl, s, rfl, Nat.le_refl _, rfl, rfl⟩
    case round =>
      obtain ⟨rfl, T, rfl, hTs, rfl, ho⟩ := hrel
      have HO : Hid (Plain.only (Plain.whole T.data.toList) = Plain.only (Plain.whole s.data.toList)) := ho
      clear ho
      go_wp2_with fail
      refine (Try.strings_IndexByte T 10 _).mono ?_
      rintro e w' ⟨rfl, hw⟩
      rw [hw]
      clear hw
      obtain ⟨I, hI⟩ : ∃ I, Lib.indexByte T.data.toList (10 : Int).toNat.toUInt8 = I := ⟨_, rfl⟩
      rw [hI]
      have hf := idx_facts T I hI
      clear hI
      rcases hf with ⟨rfl, hno⟩ | ⟨n, rfl, hn, hno, hl⟩
      · have HF : Hid (Plain.buf s.data.toList = false) := by
          show _ = _
          rw [Plain.buf, ← HO.out, Plain.whole_none _ hno]
          rfl
        clear hno
        go_wp2
        go_ret
        exact ⟨ret_bool HF.out.symm, rfl⟩
      · have HN := hide_pair (line_no T n hno hl hn) (line_yes T n hno hl hn)
        clear hno hl
        go_wp2_with fail
        refine (empty_any _ _ (by simp; omega)).mono ?_
        rintro e w' ⟨rfl, hw⟩
        rw [hw]
        clear hw
        cases hb : Plain.bare (T.extract 0 (n + 1)).data.toList
        · have HF : Hid (Plain.buf s.data.toList = true) := by
            show _ = _
            rw [Plain.buf, ← HO.out, HN.out.1 hb]
            rfl
          clear hb
          go_wp2
          go_ret
          exact ⟨ret_bool HF.out.symm, rfl⟩
        · have HF : Hid (Plain.only (Plain.whole (T.extract (n + 1) T.size).data.toList) = Plain.only (Plain.whole s.data.toList)) := by
            show _ = _
            rw [HN.out.2 hb, HO.out]
          clear hb
          go_wp2
          go_roundg (T.size - (n + 1))
          case measure => omega
          case rel => exact ⟨rfl, T.extract (n + 1) T.size, by simp, by omega, rfl, HF.out⟩

/-- What 'buffered' answers. -/
def ans (x : Bool) (s t : ByteArray) (y : Bool) : Bool := x && ((decide (0 < t.size) && !y) || Plain.buf s.data.toList)

theorem buffered_any (b : Nat) (x : Bool) (s t : ByteArray) (y : Bool) (w : World) (hs : s.size ≤ 1048579) (hf : Feed w b x s t y) :
    Calls Try.prog 28 #[.pointer (some ⟨b, 0, none⟩)] w fun e w' => e = .returned (.bool (ans x s t y)) ∧ w' = w := by
  cases x
  · exact buffered_off b s t y w hf
  · by_cases ht : t.size = 0 ∨ y = true
    · have e : ans true s t y = Plain.buf s.data.toList := by
        rcases ht with h | h <;> simp [ans, h]
      rw [e]
      exact buffered_text b s t y w hs ht hf
    · have h0 : 0 < t.size := by
        rcases Nat.eq_zero_or_pos t.size with h | h
        · exact absurd (.inl h) ht
        · exact h
      have hy : y = false := by
        cases y with
        | false => rfl
        | true => exact absurd (.inr rfl) ht
      subst hy
      have e : ans true s t false = true := by simp [ans, h0]
      rw [e]
      exact buffered_cut b s t w h0 hf

theorem zbuffered_any (b : Nat) (x : Bool) (s t : ByteArray) (y : Bool) (w : World) (hs : s.size ≤ 1048579) (hf : Feed w b x s t y) :
    Calls Try.prog 20 #[.pointer (some ⟨b, 0, none⟩)] w fun e w' => e = .returned (.bool (ans x s t y)) ∧ w' = w := by
  have HF : Hid (Feed w b x s t y) := hf
  clear hf
  go_enter Try.func20, Try.ntmps20
  go_wp2_with (go_at_call 28; refine (buffered_any b x s t y _ hs HF.out).mono ?_; rintro e w' ⟨rfl, hw⟩; rw [hw]; clear hw)
  go_ret
  exact ⟨rfl, rfl⟩

theorem oneline_any (s : ByteArray) (w : World) (hs : s.size ≤ 1048579) :
    Calls Try.prog 22 #[.string s] w fun e w' => e = .returned (.bool (Plain.buf s.data.toList)) ∧ Below w.heap.size w w' := by
  go_enter Try.func22, Try.ntmps22
  go_wp2_with fail
  refine (new_any _ _ _ _ _).mono ?_
  rintro e w1 ⟨rfl, h1, h2, h3, h4, hb⟩
  have HF : Hid (Feed w1 w.heap.size true s ⟨#[]⟩ false) := ⟨h1, h2, h3, h4⟩
  clear h1 h2 h3 h4
  go_wp2_with (go_at_call 20; refine (zbuffered_any w.heap.size true s ⟨#[]⟩ false _ hs HF.out).mono ?_; rintro e w' ⟨rfl, hw⟩; rw [hw]; clear hw)
  go_ret
  exact ⟨ret_bool (by simp [ans, ByteArray.size]), hb⟩
end Go.Proofs.Qxb6604702a
