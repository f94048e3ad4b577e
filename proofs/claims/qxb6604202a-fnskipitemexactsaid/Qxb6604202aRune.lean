/-
  THE LIBRARY's IndexRune (21) at ASCII chars and a rune beyond ASCII: -1. And what the model's decoder gives at a byte beyond ASCII.
-/
import Derived.Test.Qxb6604202aRows
import Derived.Test.Qxb6604202aShelf
import Derived.WalkKit
import Derived.Lib.Walk
import Derived.Lib.OthersKept
import Derived.Lib.IndexBytes
import Derived.Laws.Runes
import Derived.Deep.LoopGhost
import Derived.Deep.QuietTactic
import Derived.BigQuiet
import Derived.WalkMore
import Derived.WalkSmall
import Derived.Below
namespace Go.Proofs.Qxb6604202a
open Go.RowKit

theorem get_lt (s : ByteArray) (j : Nat) (h : j < s.size) : s.get! j = s[j]'h := by
  simp [ByteArray.get!, getElem!_pos, h]
  rfl

theorem decode_wide (s : ByteArray) (pos : Nat) (h : pos < s.size) (ha : 128 ≤ (s.get! pos).toNat) :
    128 ≤ (Utf8.decode s pos).1 ∧ (Utf8.decode s pos).1 ≤ 1114111 ∧ 1 ≤ (Utf8.decode s pos).2 ∧ pos + (Utf8.decode s pos).2 ≤ s.size ∧ ∀ j, pos ≤ j → j < pos + (Utf8.decode s pos).2 → 128 ≤ (s.get! j).toNat := by
  have hn : ¬ (s.get! (pos + 0)).toNat < 128 := by simpa using ha
  have one : ∀ j, pos ≤ j → j < pos + 1 → 128 ≤ (s.get! j).toNat := fun j h1 h2 => by
    have : j = pos := by omega
    rw [this]; exact ha
  simp only [Utf8.decode, hn, if_false]
  split
  · rename_i hc
    simp only [Bool.and_eq_true, decide_eq_true_eq, beq_iff_eq] at hc
    split
    · refine ⟨by omega, by omega, by omega, by omega, fun j h1 h2 => ?_⟩
      rcases (by omega : j = pos ∨ j = pos + 1) with e | e <;> rw [e]
      · exact ha
      · omega
    · exact ⟨by decide, by decide, by decide, by show pos + 1 ≤ _; omega, one⟩
  · split
    · rename_i hc
      simp only [Bool.and_eq_true, decide_eq_true_eq, beq_iff_eq] at hc
      split
      · rename_i hv
        simp only [Bool.and_eq_true, decide_eq_true_eq] at hv
        refine ⟨by omega, by omega, by omega, by omega, fun j h1 h2 => ?_⟩
        rcases (by omega : j = pos ∨ j = pos + 1 ∨ j = pos + 2) with e | e | e <;> rw [e]
        · exact ha
        · omega
        · omega
      · exact ⟨by decide, by decide, by decide, by show pos + 1 ≤ _; omega, one⟩
    · split
      · rename_i hc
        simp only [Bool.and_eq_true, decide_eq_true_eq, beq_iff_eq] at hc
        split
        · rename_i hv
          simp only [Bool.and_eq_true, decide_eq_true_eq, Utf8.valid, Bool.or_eq_true] at hv
          refine ⟨by omega, by omega, by omega, by omega, fun j h1 h2 => ?_⟩
          rcases (by omega : j = pos ∨ j = pos + 1 ∨ j = pos + 2 ∨ j = pos + 3) with e | e | e | e <;> rw [e]
          · exact ha
          · omega
          · omega
          · omega
        · exact ⟨by decide, by decide, by decide, by show pos + 1 ≤ _; omega, one⟩
      · exact ⟨by decide, by decide, by decide, by show pos + 1 ≤ _; omega, one⟩

set_option maxHeartbeats 400000 in
theorem valid_any (r : Int) (w : World) :
    Calls Try.prog 26 #[.int .i32 r] w fun e w' => e = .returned (.bool (validRune r)) ∧ w' = w := by
  go_enter Try.func26, Try.ntmps26
  go_wp2
  all_goals (go_ret; refine ⟨congrArg (fun b => Ending.returned (.bool b)) ?_, rfl⟩; symm; unfold validRune; first | (apply decide_eq_true; omega) | (apply decide_eq_false; omega))

set_option maxHeartbeats 1000000 in
set_option maxRecDepth 100000 in
theorem rune_error (chars : ByteArray) (w : World) (hA : ∀ (j : Nat) b, chars.data.toList[j]? = some b → b.toNat < 128) :
    Calls Try.prog 21 #[.string chars, .int .i32 65533] w fun e w' => e = .returned (.int .i64 (-1)) ∧ Below w.heap.size w w' := by
  have HA : Aside (∀ (j : Nat) b, chars.data.toList[j]? = some b → b.toNat < 128) := hA
  clear hA
  go_enter Try.func21, Try.ntmps21
  go_wp2_with fail
  go_loopg [5, 6] chars.size (fun g _ _ wx => ∃ i : Nat, i + g = chars.size ∧ wx = w.iter chars i)
  case atStart => exact ⟨0, by omega, rfl⟩
  case round =>
    obtain ⟨i, hig, rfl⟩ := hrel
    cases gk with
    | zero =>
      obtain rfl : i = chars.size := by omega
      have hnx := run_next_end (P := Try.prog) w chars chars.size
      go_wp2
      go_ret
      exact ⟨rfl, (Below.refl _ _).alloc (Nat.le_refl _) _⟩
    | succ g =>
      have hi : i < chars.size := by omega
      obtain ⟨x, hx⟩ : ∃ x : UInt8, chars[i]'hi = x := ⟨_, rfl⟩
      have hxl : chars.data.toList[i]? = some x := by rw [← hx]; exact Lib.data_getElem? chars i hi
      have hx128 : x.toNat < 128 := HA.out i x hxl
      have hnx := fun ty => run_next_ascii (P := Try.prog) w chars i ty hi (by rw [hx]; exact hx128)
      rw [hx] at hnx
      clear hxl hx
      have hne : ((x.toNat : Int) == 65533) = false := beq_eq_false_iff_ne.2 (by omega)
      go_wp2
      go_roundg g
      case measure => omega
      case rel => exact ⟨i + 1, by omega, rfl⟩

theorem indexByte_no (l : List UInt8) (c : UInt8) (h : ∀ b ∈ l, b ≠ c) : Lib.indexByte l c = -1 := by
  have h1 := Lib.contains_iff_indexByte l c
  have h2 : l.contains c = false := by
    cases e : l.contains c with
    | false => rfl
    | true => exact absurd rfl (h c (by simpa using e))
  rw [h2] at h1
  have h3 := of_decide_eq_false h1.symm
  have h4 := Lib.indexByte_ge l c
  omega

theorem idx_none (t : ByteArray) (c : UInt8) (w : World) (hc : 128 ≤ c.toNat) (hA : ∀ b ∈ t.data.toList, b.toNat < 128) :
    Calls Try.prog 25 #[.string t, .int .u8 c.toNat] w fun e w' => e = .returned (.int .i64 (-1)) ∧ w' = w := by
  refine (Try.strings_IndexByte t c.toNat w).mono ?_
  rintro e w' ⟨rfl, hw⟩
  refine ⟨?_, hw⟩
  have e1 : ((c.toNat : Int)).toNat.toUInt8 = c := by simp
  rw [e1, indexByte_no _ _ (fun b hb hbc => by have := hA b hb; rw [hbc] at this; omega)]

theorem mem_ascii (s : ByteArray) (a e : Nat) (hA : ∀ (j : Nat) b, s.data.toList[j]? = some b → b.toNat < 128) : ∀ b ∈ (s.extract a e).data.toList, b.toNat < 128 := fun b hb => by
  obtain ⟨i, hi, e⟩ := List.getElem_of_mem (mem_extract hb)
  exact hA i b (by rw [List.getElem?_eq_getElem hi, e])

set_option maxHeartbeats 1000000 in
set_option maxRecDepth 100000 in
theorem rune_other (chars : ByteArray) (r : Int) (w : World) (h0 : 128 ≤ r) (h1 : r ≤ 1114111) (h2 : (r == 65533) = false) (hs : chars.size ≤ 1048576) (hA : ∀ (j : Nat) b, chars.data.toList[j]? = some b → b.toNat < 128) :
    Calls Try.prog 21 #[.string chars, .int .i32 r] w fun e w' => e = .returned (.int .i64 (-1)) ∧ Below w.heap.size w w' := by
  have HA : Aside (∀ (j : Nat) b, chars.data.toList[j]? = some b → b.toNat < 128) := hA
  clear hA
  have h3 : ¬ r < 128 := by omega
  cases hv : validRune r
  · go_enter Try.func21, Try.ntmps21
    go_wp2_with (go_at_call 26; refine (valid_any _ _).mono ?_; rintro e w' ⟨rfl, rfl⟩; rw [hv])
    go_ret
    exact ⟨rfl, Below.refl _ _⟩
  · have f := encode_facts r (by rw [validRune_eq]; exact hv) h0
    obtain ⟨E, hE⟩ : ∃ E, Utf8.encode r = E := ⟨_, rfl⟩
    rw [hE] at f
    obtain ⟨f1, f2, f3⟩ := f
    obtain ⟨n, hn⟩ : ∃ n, E.size = n + 1 := ⟨E.size - 1, by omega⟩
    have hlE : n < E.size := by omega
    have f4 : 128 ≤ (E[n]'hlE).toNat := by
      have := f3 (by omega)
      simp only [hn, Nat.add_sub_cancel] at this
      exact this
    have HN : Hid (E.size = n + 1) := hn
    obtain ⟨x, hx⟩ : ∃ x : UInt8, E[n]'hlE = x := ⟨_, rfl⟩
    rw [hx] at f4
    clear f3 hn
    go_enter Try.func21, Try.ntmps21
    go_wp2_with (go_at_call 26; refine (valid_any _ _).mono ?_; rintro e w' ⟨rfl, hw⟩; rw [hw, hv]; clear hw)
    go_step3
    go_wp2_with fail
    rw [show ((E.size : Int) - 1) = n from by have := HN.out; omega]
    go_loopg [9] 1 (fun g i wx => g = 1 ∧ wx = w ∧ i = .int .i64 n)
    case atStart => exact ⟨rfl, rfl, rfl⟩
    case round =>
      obtain ⟨rfl, rfl, rfl⟩ := hrel
      by_cases hlt : n < chars.size
      · obtain ⟨y, hy⟩ : ∃ y : UInt8, chars[n]'hlt = y := ⟨_, rfl⟩
        have hy128 : y.toNat < 128 := HA.out n y (by rw [← hy]; exact Lib.data_getElem? chars n hlt)
        have hne : ((y.toNat : Int) == (x.toNat : Int)) = false := beq_eq_false_iff_ne.2 (by omega)
        have hs1 : (n : Int) + 1 ≤ (chars.size : Int) := by omega
        have hs0 : 0 ≤ (n : Int) + 1 := by omega
        go_wp2_with fail
        go_step3
        go_wp2_with fail
        go_quiet (fail)
        have hbq := below_drewN (Below.refl wr.heap.size wr) nq
        generalize wr.drewN nq = wq at hbq ⊢
        go_wp2_with fail
        refine wp_region_quiet_lit (by kernel_rfl) (by kernel_rfl) ?_
        iterate 3 (go_big_quiet_step (fail))
        refine wpQuiet_step (fun K hK => ?_)
        go_simp
        refine hK _ ?_
        clear hK K
        iterate 3 (go_big_quiet_step (fail))
        go_big_quiet_step ((go_at_call 25; exact Calls.quiet_of_same (idx_none _ _ _ f4 (mem_ascii _ _ _ HA.out))))
        go_big_quiet_step (fail)
        refine wpQuiet_nil ?_
        intro _ hw'
        obtain ⟨nq2, hw''⟩ := hw'
        subst hw''
        go_wp2
        simp only [Exit.noGoto_ret, Exit.inBlock, Exit.then]
        go_ret
        exact ⟨rfl, below_drewN hbq nq2⟩
      · go_wp2
        rw [Exit.noGoto_ret]
        go_ret
        exact ⟨rfl, Below.refl _ _⟩
end Go.Proofs.Qxb6604202a
