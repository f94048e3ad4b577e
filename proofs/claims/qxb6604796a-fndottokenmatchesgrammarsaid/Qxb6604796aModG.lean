/-
  zzDotModel (11) whole; the law of the grammar (3): its walk.
-/
import Derived.Test.Qxb6604796aModC
import Derived.Test.Qxb6604796aModD
import Derived.Test.Qxb6604796aModE
import Derived.Test.Qxb6604796aModF
import Derived.Test.Qxb6604796aOwn
namespace Go.Proofs.Qxb6604796a
open Go.RowKit
set_option linter.unusedVariables false
set_option linter.unusedSimpArgs false

theorem model_any (b c : Nat) (s : ByteArray) (w : World) (hs : s.size ≤ 1048576) (h0 : 0 < s.size) (hb : Lib.Bytes w b 0 s) (K N : Nat) (hKN : Plain.tok s.data.toList = (K, N)) :
    Calls Try.prog 11 #[.slice (some ⟨b, 0, none⟩) s.size c] w fun e w' => e = .returned (.tuple #[.int .i64 K, .int .i64 N]) ∧ w' = w := by
  have et : Plain.tok s.data.toList = Plain.tok1 s[0] (s.data.toList.drop 1) := by
    conv => lhs; rw [list_cons s h0]
    rfl
  have hr := rest_len s h0
  by_cases h35 : s[0] = 35 ∨ (s[0] = 47 ∧ (s.data.toList.drop 1).head? = some 47)
  · have e : Plain.tok s.data.toList = (6, Plain.run Plain.notNl s.data.toList) := by
      rw [et, Plain.tok1, if_pos h35]
      conv => rhs; rw [list_cons s h0, Plain.run_hit _ _ _ (by rcases h35 with h | h; rw [h]; decide; rw [h.1]; decide)]
      rw [Nat.add_comm]
    obtain ⟨rfl, rfl⟩ := Prod.mk.inj (e.symm.trans hKN)
    refine mod_line b c s w hs h0 hb ?_ _ rfl
    rcases h35 with h | ⟨h, h'⟩
    · exact .inl h
    · refine .inr ⟨h, ?_⟩
      by_cases h1 : 1 < s.size
      · rw [head_one s h1] at h'
        exact ⟨h1, Option.some.inj h'⟩
      · rw [head_none s h1] at h'; simp at h'
  · by_cases h42 : s[0] = 47 ∧ (s.data.toList.drop 1).head? = some 42
    · have h1 : 1 < s.size := by
        by_cases h : 1 < s.size
        · exact h
        · rw [head_none s h] at h42; simp at h42
      have e : Plain.tok s.data.toList = (6, Plain.orAll ((Plain.bc (s.data.toList.drop 2) 2).map (· + 2)) s.size) := by
        rw [et, Plain.tok1, if_neg h35, if_pos h42, List.drop_drop, hr]
      obtain ⟨rfl, rfl⟩ := Prod.mk.inj (e.symm.trans hKN)
      rw [head_one s h1] at h42
      exact mod_block b c s w hs (by omega) hb h42.1 (Option.some.inj h42.2) _ rfl
    · by_cases h34 : s[0] = 34
      · have e : Plain.tok s.data.toList = (4, Plain.orAll (Plain.qend (s.data.toList.drop 1) 1) s.size) := by
          rw [et, Plain.tok1, if_neg h35, if_neg h42, if_pos h34, hr]
        obtain ⟨rfl, rfl⟩ := Prod.mk.inj (e.symm.trans hKN)
        exact mod_quoted b c s w hs h0 hb h34 _ rfl
      · by_cases h60 : s[0] = 60
        · have e : Plain.tok s.data.toList = (5, Plain.orAll (Plain.hend s.data.toList 0 0) s.size) := by
            rw [et, Plain.tok1, if_neg h35, if_neg h42, if_neg h34, if_pos h60, hr]
            conv => rhs; rw [list_cons s h0, h60]
            simp [Plain.hend]
          obtain ⟨rfl, rfl⟩ := Prod.mk.inj (e.symm.trans hKN)
          exact mod_html b c s w hs h0 hb h60 _ rfl
        · cases hle : Plain.letter s[0] with
          | true =>
            have e : Plain.tok s.data.toList = (1, 1 + Plain.run Plain.idb (s.data.toList.drop 1)) := by
              rw [et, Plain.tok1, if_neg h35, if_neg h42, if_neg h34, if_neg h60, if_pos hle]
            obtain ⟨rfl, rfl⟩ := Prod.mk.inj (e.symm.trans hKN)
            exact mod_word b c s w hs h0 hb hle _ rfl
          | false =>
            have hle' : ¬ Plain.letter s[0] = true := by rw [hle]; exact Bool.false_ne_true
            by_cases he : s[0] = 45 ∧ ((s.data.toList.drop 1).head? = some 62 ∨ (s.data.toList.drop 1).head? = some 45)
            · have h1 : 1 < s.size := by
                by_cases h : 1 < s.size
                · exact h
                · rw [head_none s h] at he; simp at he
              have e : Plain.tok s.data.toList = (3, 2) := by
                rw [et, Plain.tok1, if_neg h35, if_neg h42, if_neg h34, if_neg h60, if_neg hle', if_pos he]
              obtain ⟨rfl, rfl⟩ := Prod.mk.inj (e.symm.trans hKN)
              rw [head_one s h1] at he
              refine mod_edge b c s w hs (by omega) hb he.1 ?_
              rcases he.2 with h | h
              · exact .inl (Option.some.inj h)
              · exact .inr (Option.some.inj h)
            · have e : (if 0 < Plain.aut s.data.toList 0 0 0 then (2, Plain.aut s.data.toList 0 0 0) else (0, 1)) = (K, N) := by
                have ea := Plain.aut_num s[0] (s.data.toList.drop 1)
                rw [← list_cons s h0] at ea
                rw [ea, ← hKN, et, Plain.tok1, if_neg h35, if_neg h42, if_neg h34, if_neg h60, if_neg hle', if_neg he]
              have n35 : s[0] ≠ 35 := fun h => h35 (.inl h)
              by_cases h1 : 1 < s.size
              · rw [head_one s h1] at h35 h42 he
                by_cases h47 : s[0] = 47
                · exact mod_num_slash b c s w hs h0 hb n35 h34 h60 hle (by omega) h47 ⟨fun h => h35 (.inr ⟨h47, congrArg some h⟩), fun h => h42 ⟨h47, congrArg some h⟩⟩ K N e
                · by_cases h45 : s[0] = 45
                  · exact mod_num_minus b c s w hs h0 hb n35 h34 h60 hle (by omega) h45 ⟨fun h => he ⟨h45, .inl (congrArg some h)⟩, fun h => he ⟨h45, .inr (congrArg some h)⟩⟩ K N e
                  · exact mod_num_plain b c s w hs h0 hb n35 h34 h60 hle (by omega) h47 h45 K N e
              · exact mod_num_one b c s w hs h0 hb n35 h34 h60 hle (by omega) K N e

set_option maxHeartbeats 400000 in
theorem gra_long (a : Option Addr) (n c : Nat) (w : World) (hn : 1048576 < n) :
    Calls Try.prog 3 #[.slice a n c] w fun e w' => e = .returned (.bool true) ∧ Below w.heap.size w w' := by
  go_enter Try.func3, Try.ntmps3
  go_wp2_with (go_at_call 9; refine (bytes_no _ _ _ _ hn).mono ?_; rintro e w' ⟨rfl, hw⟩; rw [hw]; clear hw)
  go_ret
  exact ⟨rfl, Below.refl _ _⟩

set_option maxHeartbeats 400000 in
theorem gra_empty (a : Option Addr) (c : Nat) (w : World) :
    Calls Try.prog 3 #[.slice a 0 c] w fun e w' => e = .returned (.bool true) ∧ Below w.heap.size w w' := by
  go_enter Try.func3, Try.ntmps3
  go_wp2_with (go_at_call 9; refine (bytes_yes _ _ _ _ (by omega)).mono ?_; rintro e w' ⟨rfl, hw⟩; rw [hw]; clear hw)
  go_ret
  exact ⟨rfl, Below.refl _ _⟩

set_option maxHeartbeats 1000000 in
set_option maxRecDepth 100000 in
theorem gra_walk (b o c : Nat) (s : ByteArray) (m : Int) (w : World) (hs : s.size ≤ 1048576) (h0 : 0 < s.size) (hlt : b < w.heap.size) (hb : Lib.Bytes w b o s) (hm : w.cell? ⟨0, 0, none⟩ = some (.int .i64 m)) :
    Calls Try.prog 3 #[.slice (some ⟨b, o, none⟩) s.size c] w fun e w' => e = .returned (.bool true) ∧ Below w.heap.size w w' := by
  obtain ⟨⟨K, N⟩, hKN⟩ : ∃ p, Plain.tok s.data.toList = p := ⟨_, rfl⟩
  have hnn := notnil
  have hmk := fun W => make_any W s.size s.size (Nat.le_refl _) (by omega)
  have hcp := copy_any b o c s w hb hlt
  have hne0 : ((s.size : Int) == 0) = false := beq_eq_false_iff_ne.2 (by omega)
  have g1 : ¬ (1048576 : Int) < (s.size : Int) := by omega
  have S : Hid (St w (w.alloc (.cells (rowOf s.data.toList) 5)) w.heap.size s m) := ⟨bytes_row w s, (Below.refl _ _).alloc (Nat.le_refl _) _, by simp, Lib.cell?_alloc_marked _ hm⟩
  have HK : Hid (Plain.tok s.data.toList = (K, N)) := hKN
  clear hb hm hKN
  go_enter Try.func3, Try.ntmps3
  go_wp2_with (go_at_call 9; refine (bytes_yes _ _ _ _ hs).mono ?_; rintro e w' ⟨rfl, hw⟩; rw [hw]; clear hw)
  refine (ztoken_any w.heap.size s.size s m _ hs h0 (Nat.le_refl _) S.out.2.2.1 S.out.1 S.out.2.2.2 K N HK.out).mono ?_
  rintro e w2 ⟨rfl, hb2⟩
  have HZ : Hid (Below w.heap.size w w2 ∧ Lib.Bytes w2 w.heap.size 0 s) := ⟨S.out.2.1.trans (hb2.mono S.out.2.1.size), fun i hi => by
    rw [hb2.cell (p := ⟨w.heap.size, 0 + i, none⟩) S.out.2.2.1]; exact S.out.1 i hi⟩
  clear hb2 hnn hmk hcp
  go_wp2_with fail
  refine (model_any w.heap.size s.size s w2 hs h0 HZ.out.2 K N HK.out).mono ?_
  rintro e w3 ⟨rfl, hw⟩
  rw [hw]
  clear hw
  go_wp2
  go_ret
  exact ⟨by simp, HZ.out.1⟩
end Go.Proofs.Qxb6604796a
