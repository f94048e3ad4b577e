/-
  THE LIBRARY's IndexAny (19) at the four ASCII bytes ',', ';', ' ', TAB: every string s of at most 2^20 bytes, whatever bytes it holds.
-/
import Derived.Test.Qxb6604202aRune
namespace Go.Proofs.Qxb6604202a
open Go.RowKit

theorem rune_wide (chars : ByteArray) (r : Int) (w : World) (h0 : 128 ≤ r) (h1 : r ≤ 1114111) (hs : chars.size ≤ 1048576) (hA : ∀ (j : Nat) b, chars.data.toList[j]? = some b → b.toNat < 128) :
    Calls Try.prog 21 #[.string chars, .int .i32 r] w fun e w' => e = .returned (.int .i64 (-1)) ∧ Below w.heap.size w w' := by
  by_cases h : r = 65533
  · subst h; exact rune_error chars w hA
  · exact rune_other chars r w h0 h1 (by simp [h]) hs hA

theorem noAny_wide (s : ByteArray) (chars : List UInt8) (i k : Nat) (hno : Lib.NoAny s.data.toList chars i) (hA : ∀ b ∈ chars, b.toNat < 128)
    (hw : ∀ j, i ≤ j → j < k → 128 ≤ (s.get! j).toNat) (hk : k ≤ s.size) : Lib.NoAny s.data.toList chars k := fun j b hj hb => by
  by_cases h : j < i
  · exact hno j b h hb
  · have hlt : j < s.size := by omega
    have e : s.data.toList[j]? = some (s[j]'hlt) := Lib.data_getElem? s j hlt
    rw [e] at hb
    have hb' := Option.some.inj hb
    have := hw j (by omega) hj
    rw [get_lt s j hlt, hb'] at this
    cases hc : chars.contains b with
    | false => rfl
    | true => have := hA b (by simpa using hc); omega

set_option maxHeartbeats 2000000 in
set_option maxRecDepth 100000 in
theorem any_short (s chars : ByteArray) (w : World) (h2 : 2 ≤ chars.size) (hcs : chars.size ≤ 1048576) (h8 : s.size ≤ 8) (hA : ∀ (j : Nat) b, chars.data.toList[j]? = some b → b.toNat < 128) :
    Calls Try.prog 19 #[.string s, .string chars] w fun e w' => e = .returned (.int .i64 (Lib.indexAny s.data.toList chars.data.toList)) ∧ Below w.heap.size w w' := by
  have HA : Aside (∀ (j : Nat) b, chars.data.toList[j]? = some b → b.toNat < 128) := hA
  have HM : Aside (∀ b ∈ chars.data.toList, b.toNat < 128) := fun b hb => by
    obtain ⟨i, hi, e⟩ := List.getElem_of_mem hb
    exact hA i b (by rw [List.getElem?_eq_getElem hi, e])
  clear hA
  have hemp : chars.toList.isEmpty = false := by
    rw [Lib.toList_data]
    cases h : chars.data.toList with
    | nil => have := Lib.size_eq chars; rw [h, List.length_nil] at this; omega
    | cons _ _ => rfl
  have hn1 : ((chars.size : Int) == 1) = false := beq_eq_false_iff_ne.2 (by omega)
  have h8z : decide ((8 : Int) < (s.size : Int)) = false := decide_eq_false (by omega)
  go_enter Try.func19, Try.ntmps19
  go_wp2_with (go_at_call 22; refine (Try.strings_shouldUseASCIISet _ _).mono ?_; rintro e w' ⟨rfl, hw⟩; rw [hw, h8z]; clear hw)
  go_loopg [9, 10] s.size (fun g _ _ wx => ∃ i : Nat, i + g = s.size ∧ wx.heap[w.heap.size]? = some (.stringIter s i) ∧ Below w.heap.size w wx ∧ Lib.NoAny s.data.toList chars.data.toList i)
  case atStart => exact ⟨0, by omega, World.iter_heap w s 0, (Below.refl _ _).alloc (Nat.le_refl _) _, Lib.NoAny.zero _ _⟩
  case round =>
    obtain ⟨i, hig, hit, hbl, hno⟩ := hrel
    have HN : Aside (Lib.NoAny s.data.toList chars.data.toList i ∧ wr.heap[w.heap.size]? = some (.stringIter s i)) := ⟨hno, hit⟩
    have hlt0 : w.heap.size < wr.heap.size := (Array.getElem?_eq_some_iff.1 hit).1
    by_cases hi : i < s.size
    · by_cases hx : (s.get! i).toNat < 128
      · obtain ⟨x, hxe⟩ : ∃ x : UInt8, s[i]'hi = x := ⟨_, rfl⟩
        have hxl : s.data.toList[i]? = some x := by rw [← hxe]; exact Lib.data_getElem? s i hi
        rw [get_lt s i hi, hxe] at hx
        have hnx := fun ty => Lib.run_next_ascii_at (P := Try.prog) wr w.heap.size s i ty hit hi (by rw [hxe]; exact hx)
        rw [hxe] at hnx
        have Hx : Aside (s.data.toList[i]? = some x) := hxl
        clear hxl hxe hno hit
        have hcon := Lib.contains_iff_indexByte chars.data.toList x
        have hback : ((x.toNat : Int)).toNat.toUInt8 = x := by simp
        cases hin : chars.data.toList.contains x
        · rw [hin] at hcon
          have hlt : ¬ ((0 : Int) ≤ Lib.indexByte chars.data.toList x) := of_decide_eq_false hcon.symm
          clear hcon
          go_wp2_with (go_at_call 21; refine (Try.strings_IndexRune_ascii _ _ _ (by omega) (by omega)).mono ?_; rintro e w' ⟨rfl, hw⟩; rw [hw, hback]; clear hw)
          go_roundg (gk - 1)
          case measure => omega
          case rel => exact ⟨i + 1, by omega, Lib.iterAt_heap _ _ _ _ _ HN.out.2, Lib.below_iterAt hbl (Nat.le_refl _) _ _, HN.out.1.succ Hx.out hin⟩
        · rw [hin] at hcon
          have hge : (0 : Int) ≤ Lib.indexByte chars.data.toList x := of_decide_eq_true hcon.symm
          clear hcon
          go_wp2_with (go_at_call 21; refine (Try.strings_IndexRune_ascii _ _ _ (by omega) (by omega)).mono ?_; rintro e w' ⟨rfl, hw⟩; rw [hw, hback]; clear hw)
          go_ret
          exact ⟨by rw [Lib.indexAny_hit HN.out.1 Hx.out hin]; rfl, Lib.below_iterAt hbl (Nat.le_refl _) _ _⟩
      · obtain ⟨d1, d2, d3, d4, d5⟩ := decode_wide s i hi (by omega)
        have hnx := fun ty => Lib.run_next_any_at (P := Try.prog) wr w.heap.size s i ty hit hi
        have HW : Aside (∀ j, i ≤ j → j < i + (Utf8.decode s i).2 → 128 ≤ (s.get! j).toNat) := d5
        clear d5 hno hit
        generalize (Utf8.decode s i).1 = c at *
        generalize (Utf8.decode s i).2 = k at *
        go_wp2_with fail
        have d1' : (128 : Int) ≤ (c : Int) := by omega
        have d2' : (c : Int) ≤ 1114111 := by omega
        refine (rune_wide _ _ _ d1' d2' hcs HA.out).mono ?_
        rintro e w' ⟨rfl, hw⟩
        go_wp2
        go_roundg (gk - k)
        case measure => omega
        case rel =>
          refine ⟨i + k, by omega, ?_, ?_, noAny_wide s _ i (i + k) HN.out.1 HM.out HW.out d4⟩
          · rw [hw.block w.heap.size (by rw [Lib.iterAt_size]; exact hlt0)]
            exact Lib.iterAt_heap _ _ _ _ _ HN.out.2
          · exact (Lib.below_iterAt hbl (Nat.le_refl _) s (i + k)).trans (hw.mono (by rw [Lib.iterAt_size]; omega))
    · have hnx := fun ty => Lib.run_next_end_at (P := Try.prog) wr w.heap.size s i ty hit hi
      clear hno hit
      go_wp2
      go_ret
      obtain rfl : i = s.size := by omega
      exact ⟨by rw [Lib.indexAny_none (by rw [← Lib.size_eq]; exact HN.out.1)]; rfl, hbl⟩

theorem delims_ascii : ∀ (j : Nat) (b : UInt8), (⟨#[44, 59, 32, 9]⟩ : ByteArray).data.toList[j]? = some b → b.toNat < 128 := fun j b h => by
  have hb : b ∈ [(44 : UInt8), 59, 32, 9] := List.mem_of_getElem? h
  simp at hb
  rcases hb with rfl | rfl | rfl | rfl <;> decide

theorem any_delims (s : ByteArray) (w : World) (hs : s.size ≤ 1048576) :
    Calls Try.prog 19 #[.string s, .string ⟨#[44, 59, 32, 9]⟩] w fun e w' => e = .returned (.int .i64 (Lib.indexAny s.data.toList [44, 59, 32, 9])) ∧ Below w.heap.size w w' := by
  by_cases h8 : s.size ≤ 8
  · exact any_short s ⟨#[44, 59, 32, 9]⟩ w (by decide) (by decide) h8 delims_ascii
  · have h116 : (Try.prog.info? 34).map (fun i => (i.zero, i.size)) = some (some (.agg (Array.replicate 256 (.bool false))), 256) := by kernel_rfl
    refine (Any.strings_IndexAny_long Try.lays153 (zero_of_info h116).1 (zero_of_info h116).2 s ⟨#[44, 59, 32, 9]⟩ w (by decide) (by omega) (by omega) (by decide) delims_ascii).mono fun e w' ⟨h1, h2⟩ => ⟨h1, ?_⟩
    rw [h2]
    exact ((Below.refl _ _).alloc (Nat.le_refl _) _).alloc (by simp) _
end Go.Proofs.Qxb6604202a
