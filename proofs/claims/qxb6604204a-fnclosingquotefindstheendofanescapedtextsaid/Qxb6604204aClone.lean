/-
  WALKS: zzBytes (8), zzCloneBytes (9).
-/
import Derived.Test.Qxb6604204aRows
import Derived.WalkKit
import Derived.Lib.Walk
import Derived.Lib.SlBytesRow
import Derived.Lib.SliceRun
import Derived.Laws.MakeOwn
import Derived.Deep.LoopGhost
import Derived.Below
namespace Go.Proofs.Qxb6604204a
open Go.RowKit

theorem ret_bool {a b : Bool} (h : a = b) : Ending.returned (.bool a) = .returned (.bool b) := by rw [h]
theorem ret_int {k : IntKind} {a b : Int} (h : a = b) : Ending.returned (.int k a) = .returned (.int k b) := by rw [h]
theorem size_len (t : ByteArray) : t.data.toList.length = t.size := by simp

theorem bytes_no (a : Option Addr) (n c : Nat) (w : World) (hs : 1048576 < n) :
    Calls Try.prog 8 #[.slice a n c] w fun e w' => e = .returned (.bool false) ∧ w' = w := by
  have h1 : (1048576 : Int) < (n : Int) := by omega
  go_enter Try.func8, Try.ntmps8
  go_wp2
  go_ret
  exact ⟨rfl, rfl⟩

theorem bytes_yes (a : Option Addr) (n c : Nat) (w : World) (hs : n ≤ 1048576) :
    Calls Try.prog 8 #[.slice a n c] w fun e w' => e = .returned (.bool true) ∧ w' = w := by
  have h1 : ¬ (1048576 : Int) < (n : Int) := by omega
  go_enter Try.func8, Try.ntmps8
  go_wp2
  go_ret
  exact ⟨rfl, rfl⟩

/-- A row of bytes as cells. -/
def rowOf (l : List UInt8) : Array Value := (l.map fun c => Value.int .u8 c.toNat).toArray

theorem isnil (W : World) (a : Option Addr) (n c : Nat) : (binOp .eql 22 (.slice a n c) (.slice none 0 0)).run Try.prog W = .ok (.bool a.isNone) W := Lib.run_eql_slice_nil W 22 5 a n c 0 0 Try.underlying22

theorem made_row (n : Nat) : madeCells (Value.int .u8 0).cells n = rowOf (List.replicate n 0) := by
  apply Array.ext
  · simp [madeCells, rowOf]
  · intro i h1 h2
    simp [madeCells, rowOf, Value.cells, Nat.mod_one]

theorem make_any (W : World) (l n : Nat) (hl : l ≤ n) (hn : n ≤ 1073741824) : (Instr.makeSlice 22 (.int .i64 l) (.int .i64 n)).run Try.prog W = .ok (.slice (some ⟨W.heap.size, 0, none⟩) l n) (W.alloc (.cells (rowOf (List.replicate n 0)) 5)) := by
  have hi : (Try.prog.info? 5).map (fun i => (i.zero, i.size, i.bytes)) = some (some (.int .u8 0), 1, 1) := by kernel_rfl
  cases h : Try.prog.info? 5 with
  | none => rw [h] at hi; simp at hi
  | some i =>
    rw [h] at hi
    simp at hi
    obtain ⟨h1, h2, h3⟩ := hi
    rw [run_make W 22 5 i (.int .u8 0) Try.underlying22 h h1 .i64 .i64 l n (by omega) (by omega) (by rw [h3]; omega) (by omega), h2, ← made_row]
    simp

theorem clone_nil (w : World) :
    Calls Try.prog 9 #[.slice none 0 0] w fun e w' => e = .returned (.slice none 0 0) ∧ w' = w := by
  have hn := fun W a n c => isnil W a n c
  go_enter Try.func9, Try.ntmps9
  go_wp2
  go_ret
  exact ⟨rfl, rfl⟩

/-- The copy behind k rounds. -/
def part (s : ByteArray) (k : Nat) : Array Value := rowOf (s.data.toList.take k ++ List.replicate (s.size - k) 0)

theorem part_zero (s : ByteArray) : part s 0 = rowOf (List.replicate s.size 0) := rfl
theorem part_all (s : ByteArray) : part s s.size = rowOf s.data.toList := by
  unfold part
  rw [List.take_of_length_le (by rw [size_len]; exact Nat.le_refl _)]
  simp
theorem part_size (s : ByteArray) (k : Nat) (h : k ≤ s.size) : (part s k).size = s.size := by
  have hz := size_len s
  simp [part, rowOf]
  omega
theorem part_set (s : ByteArray) (k : Nat) (h : k < s.size) : (part s k).setIfInBounds k (.int .u8 (s[k].toNat : Int)) = part s (k + 1) := by
  have hz := size_len s
  obtain ⟨m, hm⟩ : ∃ m, s.size - k = m + 1 := ⟨s.size - k - 1, by omega⟩
  have hm' : s.size - (k + 1) = m := by omega
  have ht : s.data.toList.take (k + 1) = s.data.toList.take k ++ [s[k]] := by
    rw [List.take_succ_eq_append_getElem (by omega)]; rfl
  have hlen : (s.data.toList.take k).length = k := by rw [List.length_take]; omega
  unfold part rowOf
  rw [hm, hm', ht]
  apply Array.ext'
  rw [Array.toList_setIfInBounds]
  simp only [List.map_append, List.replicate_succ, List.map_cons, List.map_nil]
  rw [List.set_append_right _ _ (by simp; omega)]
  have e : k - min k s.size = 0 := by omega
  simp [e]
theorem part_at (s : ByteArray) (k : Nat) (h : k < s.size) : (part s k)[k]? = some (.int .u8 0) := by
  have hz := size_len s
  obtain ⟨m, hm⟩ : ∃ m, s.size - k = m + 1 := ⟨s.size - k - 1, by omega⟩
  have hlen : (s.data.toList.take k).length = k := by rw [List.length_take]; omega
  unfold part rowOf
  rw [hm, List.getElem?_toArray, List.getElem?_map, List.getElem?_append_right (by omega), hlen]
  simp

set_option maxHeartbeats 400000 in
theorem clone_some (b o c : Nat) (s : ByteArray) (w : World) (hs : s.size ≤ 1048576) (hb : Lib.Bytes w b o s) (hlt : b < w.heap.size) :
    Calls Try.prog 9 #[.slice (some ⟨b, o, none⟩) s.size c] w fun e w' => e = .returned (.slice (some ⟨w.heap.size, 0, none⟩) s.size s.size) ∧ w' = w.alloc (.cells (rowOf s.data.toList) 5) := by
  have hn := fun W a n c => isnil W a n c
  have hmk := fun W => make_any W s.size s.size (Nat.le_refl _) (by omega)
  have HB : Hid (Lib.Bytes w b o s) := hb
  clear hb
  go_enter Try.func9, Try.ntmps9
  go_wp2_with fail
  rw [← part_zero]
  go_loopg [4] s.size (fun g i wx => ∃ k : Nat, k + g = s.size ∧ i = .int .i64 k ∧ wx = w.alloc (.cells (part s k) 5))
  case atStart => exact ⟨0, by omega, rfl, rfl⟩
  case round =>
    obtain ⟨k, hk, rfl, rfl⟩ := hrel
    cases gk with
    | zero =>
      obtain rfl : k = s.size := by omega
      go_wp2
      go_ret
      exact ⟨rfl, by rw [part_all]⟩
    | succ g =>
      have hks : k < s.size := by omega
      have hck : w.cell? ⟨b, o + k, none⟩ = some (.int .u8 (s[k].toNat : Int)) := HB.out k hks
      have hpa := part_at s k hks
      have hps := part_size s k (by omega)
      have hne : b ≠ w.heap.size := by omega
      go_wp2
      go_roundg g
      case measure => omega
      case rel => exact ⟨k + 1, by omega, by go_num, by rw [part_set s k hks]⟩

set_option maxHeartbeats 400000 in
theorem clone_empty (x : Addr) (c : Nat) (w : World) :
    Calls Try.prog 9 #[.slice (some x) 0 c] w fun e w' => e = .returned (.slice (some ⟨w.heap.size, 0, none⟩) 0 0) ∧ w' = w.alloc (.cells (rowOf []) 5) := by
  have hn := fun W a n c => isnil W a n c
  have hmk : ∀ W : World, (Instr.makeSlice 22 (.int .i64 0) (.int .i64 0)).run Try.prog W = .ok (.slice (some ⟨W.heap.size, 0, none⟩) 0 0) (W.alloc (.cells (rowOf []) 5)) := fun W => make_any W 0 0 (Nat.le_refl _) (by omega)
  go_enter Try.func9, Try.ntmps9
  go_wp2_with fail
  go_loopg [4] 0 (fun g i wx => i = .int .i64 0 ∧ wx = w.alloc (.cells (rowOf []) 5))
  case atStart => exact ⟨rfl, rfl⟩
  case round =>
    obtain ⟨rfl, rfl⟩ := hrel
    go_wp2
    go_ret
    exact ⟨rfl, rfl⟩
end Go.Proofs.Qxb6604204a
