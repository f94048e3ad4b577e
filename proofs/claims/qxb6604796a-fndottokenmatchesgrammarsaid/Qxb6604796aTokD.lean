/-
  dotToken (31) whole, and ZZDotToken (10).
-/
import Derived.Test.Qxb6604796aTokC
namespace Go.Proofs.Qxb6604796a
open Go.RowKit
set_option linter.unusedVariables false

theorem list_cons (s : ByteArray) (h0 : 0 < s.size) : s.data.toList = s[0] :: s.data.toList.drop 1 := by
  have := drop_at s 0 h0
  simpa using this
theorem head_one (s : ByteArray) (h1 : 1 < s.size) : (s.data.toList.drop 1).head? = some s[1] := by
  rw [drop_at s 1 h1]
  rfl
theorem head_zero (s : ByteArray) (h0 : 0 < s.size) : s.data.toList.head? = some s[0] := by
  rw [list_cons s h0]
  rfl
theorem head_none (s : ByteArray) (h1 : ¬ 1 < s.size) : (s.data.toList.drop 1).head? = none := by
  rw [List.drop_of_length_le (by rw [size_len]; omega)]
  rfl
theorem rest_len (s : ByteArray) (h0 : 0 < s.size) : 1 + (s.data.toList.drop 1).length = s.size := by
  rw [List.length_drop, size_len]
  omega

theorem token_any (b c : Nat) (s : ByteArray) (m : Int) (w : World) (hs : s.size ≤ 1048576) (h0 : 0 < s.size) (hc : s.size ≤ c) (hlt : b < w.heap.size) (hb : Lib.Bytes w b 0 s) (hm : w.cell? ⟨0, 0, none⟩ = some (.int .i64 m)) :
    Calls Try.prog 31 #[.slice (some ⟨b, 0, none⟩) s.size c] w fun e w' => e = .returned (.tuple #[.int .i64 (Plain.tok s.data.toList).1, .int .i64 (Plain.tok s.data.toList).2]) ∧ Below w.heap.size w w' := by
  have et : Plain.tok s.data.toList = Plain.tok1 s[0] (s.data.toList.drop 1) := by
    conv => lhs; rw [list_cons s h0]
    rfl
  have hr := rest_len s h0
  have hz := head_zero s h0
  have p1 := has2 s 47 47
  have p2 := has2 s 47 42
  rw [hz] at p1 p2
  by_cases h35 : s[0] = 35
  · have e : Plain.tok s.data.toList = (6, Plain.run Plain.notNl s.data.toList) := by
      rw [et, Plain.tok1, if_pos (.inl h35)]
      conv => rhs; rw [list_cons s h0, Plain.run_hit _ _ _ (by rw [h35]; decide)]
      rw [Nat.add_comm]
    rw [e]
    exact tok_hash b c s w h0 hb h35
  · by_cases hp1 : s[0] = 47 ∧ (s.data.toList.drop 1).head? = some 47
    · have e : Plain.tok s.data.toList = (6, Plain.run Plain.notNl s.data.toList) := by
        rw [et, Plain.tok1, if_pos (.inr hp1)]
        conv => rhs; rw [list_cons s h0, Plain.run_hit _ _ _ (by rw [hp1.1]; decide)]
        rw [Nat.add_comm]
      rw [e]
      exact tok_line b c s w hs h0 hc hlt hb h35 (by rw [p1]; exact decide_eq_true ⟨congrArg some hp1.1, hp1.2⟩)
    · have q1 : Lib.hasPrefix s.data.toList [47, 47] = false := by
        rw [p1]
        exact decide_eq_false (fun h => hp1 ⟨Option.some.inj h.1, h.2⟩)
      have n1 : ¬ (s[0] = 35 ∨ (s[0] = 47 ∧ (s.data.toList.drop 1).head? = some 47)) := fun h => by
        rcases h with h | h
        · exact h35 h
        · exact hp1 h
      by_cases hp2 : s[0] = 47 ∧ (s.data.toList.drop 1).head? = some 42
      · have q2 : Lib.hasPrefix s.data.toList [47, 42] = true := by rw [p2]; exact decide_eq_true ⟨congrArg some hp2.1, hp2.2⟩
        have h2 : 2 ≤ s.size := by
          by_cases h : 1 < s.size
          · omega
          · rw [head_none s h] at hp2; simp at hp2
        have e : Plain.tok s.data.toList = (6, Plain.orAll ((Plain.bc (s.data.toList.drop 2) 2).map (· + 2)) s.size) := by
          rw [et, Plain.tok1, if_neg n1, if_pos hp2, List.drop_drop, hr]
        rw [e]
        exact tok_block b c s m w hs h2 hc hlt hb hm h35 q1 q2
      · have q2 : Lib.hasPrefix s.data.toList [47, 42] = false := by
          rw [p2]
          exact decide_eq_false (fun h => hp2 ⟨Option.some.inj h.1, h.2⟩)
        by_cases h34 : s[0] = 34
        · have e : Plain.tok s.data.toList = (4, Plain.orAll (Plain.qend (s.data.toList.drop 1) 1) s.size) := by
            rw [et, Plain.tok1, if_neg n1, if_neg hp2, if_pos h34, hr]
          rw [e]
          exact tok_quoted b c s m w hs h0 hc hlt hb hm h35 q1 q2 h34 _ rfl
        · by_cases h60 : s[0] = 60
          · have e : Plain.tok s.data.toList = (5, Plain.orAll (Plain.hend s.data.toList 0 0) s.size) := by
              rw [et, Plain.tok1, if_neg n1, if_neg hp2, if_neg h34, if_pos h60, hr]
              conv => rhs; rw [list_cons s h0, h60]
              simp [Plain.hend]
            rw [e]
            exact tok_html b c s m w hs h0 hc hlt hb hm h35 q1 q2 h60 _ rfl
          · cases hle : Plain.letter s[0] with
            | true =>
              have e : Plain.tok s.data.toList = (1, 1 + Plain.run Plain.idb (s.data.toList.drop 1)) := by
                rw [et, Plain.tok1, if_neg n1, if_neg hp2, if_neg h34, if_neg h60, if_pos hle]
              rw [e]
              exact tok_word b c s m w hs h0 hc hlt hb hm h35 q1 q2 h34 h60 hle _ rfl
            | false =>
              have hle' : ¬ Plain.letter s[0] = true := by rw [hle]; exact Bool.false_ne_true
              by_cases h45 : s[0] = 45
              · by_cases he : (s.data.toList.drop 1).head? = some 62 ∨ (s.data.toList.drop 1).head? = some 45
                · have h2 : 1 < s.size := by
                    by_cases h : 1 < s.size
                    · exact h
                    · rw [head_none s h] at he; simp at he
                  rw [head_one s h2] at he
                  have e : Plain.tok s.data.toList = (3, 2) := by
                    rw [et, Plain.tok1, if_neg n1, if_neg hp2, if_neg h34, if_neg h60, if_neg hle', if_pos ⟨h45, by rw [head_one s h2]; exact he⟩]
                  rw [e]
                  refine tok_edge b c s m w hs h0 hc hlt hb hm h35 q1 q2 h45 (by omega) ?_ 2 rfl
                  rcases he with he | he
                  · exact .inl (Option.some.inj he)
                  · exact .inr (Option.some.inj he)
                · have e : Plain.tok s.data.toList = Plain.num s[0] (s.data.toList.drop 1) := by
                    rw [et, Plain.tok1, if_neg n1, if_neg hp2, if_neg h34, if_neg h60, if_neg hle', if_neg (fun h => he h.2)]
                  rw [e]
                  refine tok_num1 b c s m w hs h0 hc hlt hb hm h35 q1 q2 h45 (fun h => ?_) _ _ (by rw [Plain.num, if_pos h45])
                  rw [head_one s h] at he
                  exact ⟨fun h' => he (.inl (congrArg some h')), fun h' => he (.inr (congrArg some h'))⟩
              · have e : Plain.tok s.data.toList = Plain.num s[0] (s.data.toList.drop 1) := by
                  rw [et, Plain.tok1, if_neg n1, if_neg hp2, if_neg h34, if_neg h60, if_neg hle', if_neg (fun h => h45 h.1)]
                rw [e]
                refine tok_num0 b c s m w hs h0 hc hlt hb hm h35 q1 q2 h34 h60 hle h45 _ _ ?_
                rw [Plain.num, if_neg h45, ← list_cons s h0, List.drop_zero, Nat.zero_add]

theorem ztoken_any (b c : Nat) (s : ByteArray) (m : Int) (w : World) (hs : s.size ≤ 1048576) (h0 : 0 < s.size) (hc : s.size ≤ c) (hlt : b < w.heap.size) (hb : Lib.Bytes w b 0 s) (hm : w.cell? ⟨0, 0, none⟩ = some (.int .i64 m)) (K N : Nat) (hKN : Plain.tok s.data.toList = (K, N)) :
    Calls Try.prog 10 #[.slice (some ⟨b, 0, none⟩) s.size c] w fun e w' => e = .returned (.tuple #[.int .i64 K, .int .i64 N]) ∧ Below w.heap.size w w' := by
  have h := token_any b c s m w hs h0 hc hlt hb hm
  rw [hKN] at h
  have HT : Hid (Calls Try.prog 31 #[.slice (some ⟨b, 0, none⟩) s.size c] w fun e w' => e = .returned (.tuple #[.int .i64 K, .int .i64 N]) ∧ Below w.heap.size w w') := h
  clear h hb hm hKN
  go_enter Try.func10, Try.ntmps10
  go_wp2_with (go_at_call 31; refine HT.out.mono ?_; rintro e w' ⟨rfl, hw⟩)
  go_ret2
  exact ⟨rfl, hw⟩
end Go.Proofs.Qxb6604796a
