/-
  THE LAW OF THE OWN TEXT (4): its walk.
-/
import Derived.Test.Qxb6604796aTokD
namespace Go.Proofs.Qxb6604796a
open Go.RowKit
set_option linter.unusedVariables false
set_option linter.unusedSimpArgs false

set_option maxHeartbeats 400000 in
theorem own_long (a : Option Addr) (n c : Nat) (w : World) (hn : 1048576 < n) :
    Calls Try.prog 4 #[.slice a n c] w fun e w' => e = .returned (.bool true) ∧ Below w.heap.size w w' := by
  go_enter Try.func4, Try.ntmps4
  go_wp2_with (go_at_call 12; refine (bytes2_no _ _ _ _ hn).mono ?_; rintro e w' ⟨rfl, hw⟩; rw [hw]; clear hw)
  go_ret
  exact ⟨rfl, Below.refl _ _⟩

set_option maxHeartbeats 400000 in
theorem own_empty (a : Option Addr) (c : Nat) (w : World) :
    Calls Try.prog 4 #[.slice a 0 c] w fun e w' => e = .returned (.bool true) ∧ Below w.heap.size w w' := by
  go_enter Try.func4, Try.ntmps4
  go_wp2_with (go_at_call 12; refine (bytes2_yes _ _ _ _ (by omega)).mono ?_; rintro e w' ⟨rfl, hw⟩; rw [hw]; clear hw)
  go_ret
  exact ⟨rfl, Below.refl _ _⟩

theorem notnil (W : World) (x : Addr) (n c : Nat) : (binOp .neq 22 (.slice (some x) n c) (.slice none 0 0)).run Try.prog W = .ok (.bool true) W :=
  run_neq_slice_nil_any W 22 5 (some x) n c 0 0 Try.underlying22

theorem tok_own (s : ByteArray) (h0 : 0 < s.size) (K N : Nat) (h : Plain.tok s.data.toList = (K, N)) :
    K ≤ 6 ∧ 1 ≤ N ∧ N ≤ s.size ∧ Plain.tok (s.extract 0 N).data.toList = (K, N) := by
  have et : Plain.tok s.data.toList = Plain.tok1 s[0] (s.data.toList.drop 1) := by
    conv => lhs; rw [list_cons s h0]
    rfl
  have key := Plain.tok1_own s[0] (s.data.toList.drop 1)
  rw [← et, h, rest_len s h0] at key
  obtain ⟨k1, k2, k3, k4⟩ := key
  refine ⟨k1, k2, k3, ?_⟩
  have el : (s.extract 0 N).data.toList = s[0] :: (s.data.toList.drop 1).take (N - 1) := by
    rw [ByteArray.data_extract, Array.toList_extract]
    have e1 : s.data.toList.extract 0 N = s.data.toList.take N := by simp
    rw [e1]
    conv => lhs; rw [list_cons s h0]
    obtain ⟨j, rfl⟩ : ∃ j, N = j + 1 := ⟨N - 1, by simp only at k2; omega⟩
    rw [List.take_succ_cons]
    rfl
  rw [el]
  exact k4

theorem bytes_head {w : World} {b : Nat} {s : ByteArray} (h : Lib.Bytes w b 0 s) (N : Nat) (hN : N ≤ s.size) : Lib.Bytes w b 0 (s.extract 0 N) := fun i hi => by
  have hi' : i < N := by simp at hi; omega
  rw [h i (by omega)]
  simp [ByteArray.getElem_extract]

/-- The second reading: of the token's own text. -/
theorem ztoken_head (g : Nat) (s : ByteArray) (m : Int) (w0 w1 w2 : World) (hs : s.size ≤ 1048576) (K N : Nat) (k2 : 1 ≤ N) (k3 : N ≤ s.size) (hk : Plain.tok (s.extract 0 N).data.toList = (K, N))
    (S : St w0 w1 g s m) (hb : Below w1.heap.size w1 w2) :
    Below w0.heap.size w0 w2 ∧ Calls Try.prog 10 #[.slice (some ⟨g, 0, none⟩) N s.size] w2 fun e w' => e = .returned (.tuple #[.int .i64 K, .int .i64 N]) ∧ Below w2.heap.size w2 w' := by
  obtain ⟨h1, h2, h3, h4⟩ := S
  have hsz : (s.extract 0 N).size = N := by simp; omega
  have hB : Lib.Bytes w2 g 0 s := fun i hi => by
    rw [hb.cell (p := ⟨g, 0 + i, none⟩) h3]; exact h1 i hi
  have h00 : 0 < w1.heap.size := by omega
  have hm : w2.cell? ⟨0, 0, none⟩ = some (.int .i64 m) := by rw [hb.cell (p := ⟨0, 0, none⟩) h00]; exact h4
  refine ⟨h2.trans (hb.mono h2.size), ?_⟩
  have h := ztoken_any g s.size (s.extract 0 N) m w2 (by omega) (by omega) (by omega) (Nat.lt_of_lt_of_le h3 hb.size) (bytes_head hB N k3) hm K N hk
  rw [hsz] at h
  exact h

set_option maxHeartbeats 1000000 in
set_option maxRecDepth 100000 in
theorem own_walk (b o c : Nat) (s : ByteArray) (m : Int) (w : World) (hs : s.size ≤ 1048576) (h0 : 0 < s.size) (hlt : b < w.heap.size) (hb : Lib.Bytes w b o s) (hm : w.cell? ⟨0, 0, none⟩ = some (.int .i64 m)) :
    Calls Try.prog 4 #[.slice (some ⟨b, o, none⟩) s.size c] w fun e w' => e = .returned (.bool true) ∧ Below w.heap.size w w' := by
  obtain ⟨⟨K, N⟩, hKN⟩ : ∃ p, Plain.tok s.data.toList = p := ⟨_, rfl⟩
  obtain ⟨k1, k2, k3, k4⟩ := tok_own s h0 K N hKN
  have hnn := notnil
  have hmk := fun W => make_any W s.size s.size (Nat.le_refl _) (by omega)
  have hcp := copy_any b o c s w hb hlt
  have hne0 : ((s.size : Int) == 0) = false := beq_eq_false_iff_ne.2 (by omega)
  have g1 : ¬ (1048576 : Int) < (s.size : Int) := by omega
  have S : Hid (St w (w.alloc (.cells (rowOf s.data.toList) 5)) w.heap.size s m) := ⟨bytes_row w s, (Below.refl _ _).alloc (Nat.le_refl _) _, by simp, Lib.cell?_alloc_marked _ hm⟩
  have HK : Hid (Plain.tok s.data.toList = (K, N) ∧ Plain.tok (s.extract 0 N).data.toList = (K, N)) := ⟨hKN, k4⟩
  clear hb hm hKN k4
  go_enter Try.func4, Try.ntmps4
  go_wp2_with (go_at_call 12; refine (bytes2_yes _ _ _ _ hs).mono ?_; rintro e w' ⟨rfl, hw⟩; rw [hw]; clear hw)
  refine (ztoken_any w.heap.size s.size s m _ hs h0 (Nat.le_refl _) S.out.2.2.1 S.out.1 S.out.2.2.2 K N HK.out.1).mono ?_
  rintro e w2 ⟨rfl, hb2⟩
  obtain ⟨hbl, hz⟩ := ztoken_head w.heap.size s m w _ w2 hs K N k2 k3 HK.out.2 S.out hb2
  have HZ : Hid (Below w.heap.size w w2 ∧ Calls Try.prog 10 #[.slice (some ⟨w.heap.size, 0, none⟩) N s.size] w2 fun e w' => e = .returned (.tuple #[.int .i64 K, .int .i64 N]) ∧ Below w2.heap.size w2 w') := ⟨hbl, hz⟩
  clear hbl hz hb2 hnn hmk hcp
  go_wp2_with fail
  refine HZ.out.2.mono ?_
  rintro e w3 ⟨rfl, hb3⟩
  go_wp2
  go_ret
  exact ⟨by simp, HZ.out.1.trans (hb3.mono HZ.out.1.size)⟩
end Go.Proofs.Qxb6604796a
