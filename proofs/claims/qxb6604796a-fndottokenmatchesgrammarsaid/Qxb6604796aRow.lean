/-
  WHAT A SLICE OF BYTES THAT CAME IN HOLDS: the frame's 'IsRow' turned into 'Lib.Bytes'.
-/
import Derived.Test.Qxb6604796aLeaf
import Derived.ProofKit
namespace Go.Proofs.Qxb6604796a
open Go.RowKit Go.ChangeShapes Go.WideShapes Go.ChangeAt

theorem wf_u8 {n : Int} (h : (Lit.int .u8 n).wf = true) : 0 ≤ n ∧ n < 256 := by
  simp [Lit.wf, IntKind.min, IntKind.max, IntKind.signed, IntKind.bits] at h
  omega

theorem row_bytes {w : World} {x : Addr} {len : Nat} {zs : List Int} (h0 : 0 < len) (hl : len ≤ zs.length)
    (hcell : ∀ i, i < zs.length → w.cell? (x.add i) = some (.int .u8 (zs.getD i 0))) (hwf : ∀ n ∈ zs, (Lit.int .u8 n).wf = true) :
    ∃ b o s, x = ⟨b, o, none⟩ ∧ s.size = len ∧ Lib.Bytes w b o s ∧ b < w.heap.size := by
  obtain ⟨b, o, spot⟩ := x
  have hspot : spot = none := by simpa [Addr.add] using World.cell?_spot (hcell 0 (by omega))
  subst hspot
  have hb : b < w.heap.size := by
    have h := hcell 0 (by omega)
    rcases Nat.lt_or_ge b w.heap.size with h' | h'
    · exact h'
    · simp [Addr.add, World.cell?, Array.getElem?_eq_none h'] at h
  refine ⟨b, o, ⟨((zs.take len).map fun n => UInt8.ofNat n.toNat).toArray⟩, rfl, ?_, ?_, hb⟩
  · simp [ByteArray.size]; omega
  · intro i hi
    have hi' : i < len := by simp [ByteArray.size] at hi; omega
    have hc := hcell i (by omega)
    have hw := wf_u8 (hwf (zs[i]'(by omega)) (List.getElem_mem _))
    rw [show (⟨b, o, none⟩ : Addr).add i = ⟨b, o + i, none⟩ from by simp [Addr.add]] at hc
    rw [hc]
    have e1 : zs.getD i 0 = zs[i]'(by omega) := by simp [List.getD, List.getElem?_eq_getElem (by omega : i < zs.length)]
    rw [e1]
    congr 2
    have e2 : (⟨((zs.take len).map fun n => UInt8.ofNat n.toNat).toArray⟩ : ByteArray)[i]'hi = UInt8.ofNat (zs[i]'(by omega)).toNat := by
      show (((zs.take len).map fun n => UInt8.ofNat n.toNat).toArray)[i]'_ = _
      simp
    rw [e2, UInt8.toNat_ofNat']
    omega
end Go.Proofs.Qxb6604796a
