/-
  THE SECOND LAW's PARTS: a slice that came in, its copy, the buffer that grows in its own room; zzBytes (12).
-/
import Derived.Test.Qxb6604204aRow
import Derived.Deep.DeepAppendRoom
namespace Go.Proofs.Qxb6604204a
open Go.RowKit

/-- A slice of bytes that came in: nil; empty; or a row. -/
def Came (w : World) (a : Option Addr) (c : Nat) (s : ByteArray) : Prop :=
  (a = none ∧ s.size = 0 ∧ c = 0) ∨ (∃ x, a = some x ∧ s.size = 0) ∨ ∃ b o, a = some ⟨b, o, none⟩ ∧ b < w.heap.size ∧ Lib.Bytes w b o s

/-- A copy: it may be nil where there is no element. -/
def Reads (w : World) (a : Option Addr) (s : ByteArray) : Prop :=
  s.size = 0 ∨ ∃ b, a = some ⟨b, 0, none⟩ ∧ b < w.heap.size ∧ Lib.Bytes w b 0 s

theorem bytes_below {B : Nat} {w w' : World} {b o : Nat} {s : ByteArray} (h : Lib.Bytes w b o s) (hb : Below B w w') (hlt : b < B) : Lib.Bytes w' b o s := fun i hi => by
  rw [hb.cell (p := ⟨b, o + i, none⟩) hlt]; exact h i hi

theorem Came.below {w w' : World} {a : Option Addr} {c : Nat} {s : ByteArray} (h : Came w a c s) (hb : Below w.heap.size w w') : Came w' a c s := by
  rcases h with h | h | ⟨b, o, h1, h2, h3⟩
  · exact .inl h
  · exact .inr (.inl h)
  · exact .inr (.inr ⟨b, o, h1, Nat.lt_of_lt_of_le h2 hb.size, bytes_below h3 hb h2⟩)
theorem Reads.below {w w' : World} {a : Option Addr} {s : ByteArray} (h : Reads w a s) (hb : Below w.heap.size w w') : Reads w' a s := by
  rcases h with h | ⟨b, h1, h2, h3⟩
  · exact .inl h
  · exact .inr ⟨b, h1, Nat.lt_of_lt_of_le h2 hb.size, bytes_below h3 hb h2⟩
theorem Reads.at {w : World} {a : Option Addr} {s : ByteArray} (h : Reads w a s) {k : Nat} (hk : k < s.size) : ∃ b, a = some ⟨b, 0, none⟩ ∧ b < w.heap.size ∧ w.cell? ⟨b, k, none⟩ = some (.int .u8 (s[k].toNat : Int)) := by
  rcases h with h | ⟨b, h1, h2, h3⟩
  · omega
  · exact ⟨b, h1, h2, by simpa using h3 k hk⟩

theorem clone_any (a : Option Addr) (c : Nat) (s : ByteArray) (w : World) (hs : s.size ≤ 1048576) (h : Came w a c s) :
    Calls Try.prog 9 #[.slice a s.size c] w fun e w' => ∃ a', e = .returned (.slice a' s.size s.size) ∧ Reads w' a' s ∧ Below w.heap.size w w' := by
  rcases h with ⟨rfl, h0, rfl⟩ | ⟨x, rfl, h0⟩ | ⟨b, o, rfl, hlt, hb⟩
  · rw [h0]
    exact (clone_nil w).mono fun e w' ⟨h1, h2⟩ => ⟨none, h1, .inl h0, h2 ▸ Below.refl _ _⟩
  · rw [h0]
    exact (clone_empty x c w).mono fun e w' ⟨h1, h2⟩ => ⟨_, h1, .inl h0, h2 ▸ (Below.refl _ _).alloc (Nat.le_refl _) _⟩
  · exact (clone_some b o c s w hs hb hlt).mono fun e w' ⟨h1, h2⟩ => ⟨_, h1, .inr ⟨w.heap.size, rfl, by rw [h2]; simp, by rw [h2]; exact bytes_row w s⟩, h2 ▸ (Below.refl _ _).alloc (Nat.le_refl _) _⟩

theorem bytes2_yes (a a' : Option Addr) (n c n' c' : Nat) (w : World) (h1 : n ≤ 262144) (h2 : n' ≤ 262144) :
    Calls Try.prog 12 #[.slice a n c, .slice a' n' c'] w fun e w' => e = .returned (.bool true) ∧ w' = w := by
  have g1 : ¬ (1048576 : Int) < (n : Int) := by omega
  have g2 : ¬ (1048576 : Int) < (n' : Int) := by omega
  have g3 : ¬ (1048576 : Int) < (n : Int) + (n' : Int) := by omega
  go_enter Try.func12, Try.ntmps12
  go_wp2
  go_ret
  exact ⟨rfl, rfl⟩

theorem bytes2_any (a a' : Option Addr) (n c n' c' : Nat) (w : World) (h1 : n ≤ maxLen) (h2 : n' ≤ maxLen) :
    Calls Try.prog 12 #[.slice a n c, .slice a' n' c'] w fun e w' => (∃ x, e = .returned (.bool x)) ∧ w' = w := by
  unfold maxLen at h1 h2
  go_enter Try.func12, Try.ntmps12
  go_wp2
  all_goals (go_ret; exact ⟨⟨_, rfl⟩, rfl⟩)

/-- The buffer: l's bytes at the head of the call's own row in block g. -/
def Buf (w : World) (B g cap : Nat) (l : List UInt8) : Prop :=
  w.ownsRow B 5 1 (.slice (some ⟨g, 0, none⟩) l.length cap) l.length (l.map fun c => Value.int .u8 c.toNat)

theorem Buf.bytes {w : World} {B g cap : Nat} {l : List UInt8} (h : Buf w B g cap l) : Lib.Bytes w g 0 ⟨l.toArray⟩ := fun i hi => by
  have hi' : i < l.length := by simpa [ByteArray.size] using hi
  have h1 := World.ownsRow.cellAt h i (by omega)
  rw [Nat.zero_add, h1, List.getElem?_map, List.getElem?_eq_getElem hi']
  rfl

theorem Buf.made (w : World) (n : Nat) (hn : n ≤ 1048576) : Buf (w.alloc (.cells (rowOf (List.replicate n 0)) 5)) w.heap.size w.heap.size n [] :=
  World.ownsRow_made w _ n (Nat.le_refl _) (by unfold maxLen; omega) (by simp [rowOf])

theorem Buf.snoc {w : World} {B g cap : Nat} {l : List UInt8} {c : UInt8}
    (h : w.ownsRow B 5 1 (.slice (some ⟨g, 0, none⟩) (l.length + 1) cap) (l.length + 1) ((l.map fun c => Value.int .u8 c.toNat) ++ [.int .u8 c.toNat])) : Buf w B g cap (l ++ [c]) := by
  unfold Buf
  simpa using h

theorem info5 : ∃ i : TypeInfo, Try.prog.info? 5 = some i ∧ i.size = 1 := by
  have hi : (Try.prog.info? 5).map (fun i => i.size) = some 1 := by kernel_rfl
  cases h : Try.prog.info? 5 with
  | none => rw [h] at hi; simp at hi
  | some i => rw [h] at hi; exact ⟨i, rfl, by simpa using hi⟩
end Go.Proofs.Qxb6604204a
