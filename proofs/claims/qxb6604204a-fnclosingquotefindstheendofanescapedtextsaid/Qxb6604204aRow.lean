/-
  WHAT A SLICE OF BYTES THAT CAME IN HOLDS: the frame's 'IsRow' turned into 'Lib.Bytes'.
-/
import Derived.Test.Qxb6604204aScan
import Derived.ProofKit
namespace Go.Proofs.Qxb6604204a
open Go.RowKit Go.ChangeShapes Go.WideShapes Go.ChangeAt

theorem wf_u8 {n : Int} (h : (Lit.int .u8 n).wf = true) : 0 ≤ n ∧ n < 256 := by
  simp [Lit.wf, IntKind.min, IntKind.max, IntKind.signed, IntKind.bits] at h
  omega

theorem row_bytes {w : World} {x : Addr} {len : Nat} {zs : List Int} (h0 : 0 < len) (hl : len ≤ zs.length)
    (hcell : ∀ i, i < zs.length → w.cell? (x.add i) = some (.int .u8 (zs.getD i 0))) (hwf : ∀ n ∈ zs, (Lit.int .u8 n).wf = true) :
    ∃ b o s, x = ⟨b, o, none⟩ ∧ s.size = len ∧ Lib.Bytes w b o s ∧ b < w.heap.size := by
  obtain ⟨b, o, spot⟩ := x
  have hspot : spot = none := by simpa [Addr.add] using World.cell?_spot (hcell 0 (by omega))
  subst hspot
  have hb : b < w.heap.size := by
    have h := hcell 0 (by omega)
    rcases Nat.lt_or_ge b w.heap.size with h' | h'
    · exact h'
    · simp [Addr.add, World.cell?, Array.getElem?_eq_none h'] at h
  refine ⟨b, o, ⟨((zs.take len).map fun n => UInt8.ofNat n.toNat).toArray⟩, rfl, ?_, ?_, hb⟩
  · simp [ByteArray.size]; omega
  · intro i hi
    have hi' : i < len := by simp [ByteArray.size] at hi; omega
    have hc := hcell i (by omega)
    have hw := wf_u8 (hwf (zs[i]'(by omega)) (List.getElem_mem _))
    rw [show (⟨b, o, none⟩ : Addr).add i = ⟨b, o + i, none⟩ from by simp [Addr.add]] at hc
    rw [hc]
    have e1 : zs.getD i 0 = zs[i]'(by omega) := by simp [List.getD, List.getElem?_eq_getElem (by omega : i < zs.length)]
    rw [e1]
    congr 2
    have e2 : (⟨((zs.take len).map fun n => UInt8.ofNat n.toNat).toArray⟩ : ByteArray)[i]'hi = UInt8.ofNat (zs[i]'(by omega)).toNat := by
      show (((zs.take len).map fun n => UInt8.ofNat n.toNat).toArray)[i]'_ = _
      simp
    rw [e2, UInt8.toNat_ofNat']
    omega

/-- A row that the call itself has laid. -/
theorem bytes_row (w : World) (s : ByteArray) : Lib.Bytes (w.alloc (.cells (rowOf s.data.toList) 5)) w.heap.size 0 s := by
  intro i hi
  rw [World.cell?_alloc_at _ _ _ _ rfl]
  simp only [rowOf, Nat.zero_add, List.getElem?_toArray, List.getElem?_map]
  rw [get_list s i hi]
  rfl

set_option maxHeartbeats 400000 in
theorem walk_nil (w : World) :
    Calls Try.prog 3 #[.slice none 0 0] w fun e w' => e = .returned (.bool true) ∧ Below w.heap.size w w' := by
  go_enter Try.func3, Try.ntmps3
  go_wp2_with (first
    | (go_at_call 8; refine (bytes_yes _ _ _ _ (by omega)).mono ?_; rintro e w' ⟨rfl, hw⟩; rw [hw]; clear hw)
    | (go_at_call 9; refine (clone_nil _).mono ?_; rintro e w' ⟨rfl, hw⟩; rw [hw]; clear hw)
    | (go_at_call 10; refine (zclosing_nil _).mono ?_; rintro e w' ⟨rfl, hw⟩; rw [hw]; clear hw)
    | (go_at_call 11; refine (scan_nil _).mono ?_; rintro e w' ⟨rfl, hw⟩; rw [hw]; clear hw))
  go_ret
  exact ⟨rfl, Below.refl _ _⟩

set_option maxHeartbeats 400000 in
theorem walk_long (a : Option Addr) (n c : Nat) (w : World) (hn : 1048576 < n) :
    Calls Try.prog 3 #[.slice a n c] w fun e w' => e = .returned (.bool true) ∧ Below w.heap.size w w' := by
  go_enter Try.func3, Try.ntmps3
  go_wp2_with (go_at_call 8; refine (bytes_no _ _ _ _ hn).mono ?_; rintro e w' ⟨rfl, hw⟩; rw [hw]; clear hw)
  go_ret
  exact ⟨rfl, Below.refl _ _⟩

/-- The rest of the law, behind the copy. -/
theorem scan_empty (b o c : Nat) (w : World) : Calls Try.prog 11 #[.slice (some ⟨b, o, none⟩) 0 c] w fun e w' => e = .returned (.int .i64 (-1)) ∧ w' = w :=
  scan_some b o c ByteArray.empty w (by decide) (fun i hi => absurd hi (Nat.not_lt_zero _))
theorem zclosing_empty (b o c : Nat) (w : World) : Calls Try.prog 10 #[.slice (some ⟨b, o, none⟩) 0 c] w fun e w' => e = .returned (.int .i64 (-1)) ∧ w' = w :=
  zclosing_some b o c ByteArray.empty w (by decide) (Nat.zero_le _) (fun i hi => absurd hi (Nat.not_lt_zero _))

set_option maxHeartbeats 400000 in
theorem walk_empty (x : Addr) (c : Nat) (w : World) :
    Calls Try.prog 3 #[.slice (some x) 0 c] w fun e w' => e = .returned (.bool true) ∧ Below w.heap.size w w' := by
  go_enter Try.func3, Try.ntmps3
  go_wp2_with (first
    | (go_at_call 8; refine (bytes_yes _ _ _ _ (by omega)).mono ?_; rintro e w' ⟨rfl, hw⟩; rw [hw]; clear hw)
    | (go_at_call 9; refine (clone_empty _ _ _).mono ?_; rintro e w' ⟨rfl, hw⟩; rw [hw]; clear hw)
    | (go_at_call 10; refine (zclosing_empty _ _ _ _).mono ?_; rintro e w' ⟨rfl, hw⟩; rw [hw]; clear hw)
    | (go_at_call 11; refine (scan_empty _ _ _ _).mono ?_; rintro e w' ⟨rfl, hw⟩; rw [hw]; clear hw))
  go_ret
  exact ⟨rfl, (Below.refl _ _).alloc (Nat.le_refl _) _⟩

set_option maxHeartbeats 400000 in
theorem walk_some (b o c : Nat) (s : ByteArray) (w : World) (hs : s.size ≤ 1048576) (hb : Lib.Bytes w b o s) (hlt : b < w.heap.size) :
    Calls Try.prog 3 #[.slice (some ⟨b, o, none⟩) s.size c] w fun e w' => e = .returned (.bool true) ∧ Below w.heap.size w w' := by
  have HB : Hid (Lib.Bytes w b o s ∧ Lib.Bytes (w.alloc (.cells (rowOf s.data.toList) 5)) w.heap.size 0 s) := ⟨hb, bytes_row w s⟩
  clear hb
  go_enter Try.func3, Try.ntmps3
  go_wp2_with (first
    | (go_at_call 8; refine (bytes_yes _ _ _ _ hs).mono ?_; rintro e w' ⟨rfl, hw⟩; rw [hw]; clear hw)
    | (go_at_call 9; refine (clone_some _ _ _ _ _ hs HB.out.1 hlt).mono ?_; rintro e w' ⟨rfl, hw⟩; rw [hw]; clear hw)
    | (go_at_call 10; refine (zclosing_some _ _ _ _ _ hs (Nat.le_refl _) HB.out.2).mono ?_; rintro e w' ⟨rfl, hw⟩; rw [hw]; clear hw)
    | (go_at_call 11; refine (scan_some _ _ _ _ _ hs HB.out.2).mono ?_; rintro e w' ⟨rfl, hw⟩; rw [hw]; clear hw))
  go_ret
  exact ⟨by simp, (Below.refl _ _).alloc (Nat.le_refl _) _⟩
end Go.Proofs.Qxb6604204a
