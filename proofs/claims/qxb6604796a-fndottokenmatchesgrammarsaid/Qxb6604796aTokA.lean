/-
  dotToken (31), branch by branch: the comments.
-/
import Derived.Test.Qxb6604796aLib
import Derived.Lib.SlBytesConst
namespace Go.Proofs.Qxb6604796a
open Go.RowKit
set_option linter.unusedVariables false
set_option linter.unusedSimpArgs false

theorem line_idx (l : List UInt8) (I : Int) (h : Lib.indexByte l 10 = I) : (I = -1 ∧ Plain.run Plain.notNl l = l.length) ∨ I = (Plain.run Plain.notNl l : Nat) := by
  subst h
  induction l with
  | nil => exact .inl ⟨rfl, rfl⟩
  | cons c l ih =>
    rw [Lib.indexByte]
    by_cases hc : c = 10
    · subst hc
      right
      rw [Plain.run_miss _ _ _ (by decide)]
      rfl
    · have hp : Plain.notNl c = true := by
        simp only [Plain.notNl, decide_eq_true_eq]
        intro e
        apply hc
        rw [← UInt8.toNat_inj]
        exact e
      rw [Plain.run_hit _ _ _ hp]
      have hb : (c == 10) = false := beq_eq_false_iff_ne.2 hc
      simp only [hb, Bool.false_eq_true, if_false]
      rcases ih with ⟨h1, h2⟩ | h1
      · left
        rw [h1, h2]
        exact ⟨rfl, by simp⟩
      · right
        rw [h1]
        have hne : (((Plain.run Plain.notNl l : Nat) : Int) == -1) = false := beq_eq_false_iff_ne.2 (by omega)
        simp only [hne, Bool.false_eq_true, if_false]
        omega

theorem bytes_alloc {w : World} {b o : Nat} {s : ByteArray} (hb : Lib.Bytes w b o s) (hlt : b < w.heap.size) (x : Obj) : Lib.Bytes (w.alloc x) b o s := fun i hi => by
  rw [World.cell?_alloc_past _ _ _ hlt]
  exact hb i hi
theorem two_new (w : World) (p q : UInt8) : Two (w.alloc (.cells #[.int .u8 (p.toNat : Int), .int .u8 (q.toNat : Int)] 5 (2, 3))) w.heap.size p q :=
  ⟨by rw [World.cell?_alloc_mark]; rfl, by rw [World.cell?_alloc_mark]; rfl⟩
theorem conv_const (w : World) (C : Array Value) (n c : Nat) : (convert 22 22 (.slice (some ⟨w.heap.size, 0, none⟩) n c)).run Try.prog (w.alloc (.cells C 5)) = .ok (.slice (some ⟨w.heap.size, 0, none⟩) n c) (w.alloc (.cells C 5 (C.size, C.size + 1))) :=
  Lib.run_convert_bytes_const (P := Try.prog) w 22 5 C n c Try.underlying22 Try.underlying5

set_option maxHeartbeats 1000000 in
set_option maxRecDepth 100000 in
theorem tok_hash (b c : Nat) (s : ByteArray) (w : World) (h0 : 0 < s.size) (hb : Lib.Bytes w b 0 s) (h : s[0] = 35) :
    Calls Try.prog 31 #[.slice (some ⟨b, 0, none⟩) s.size c] w fun e w' => e = .returned (.tuple #[.int .i64 6, .int .i64 (Plain.run Plain.notNl s.data.toList)]) ∧ Below w.heap.size w w' := by
  have hc0 : w.cell? ⟨b, 0, none⟩ = some (.int .u8 35) := by have := hb 0 h0; rw [h] at this; exact this
  have HB : Hid (Lib.Bytes w b 0 s) := hb
  clear hb h
  go_enter Try.func31, Try.ntmps31
  go_wp2_with fail
  refine (idx10 b c s w HB.out).mono ?_
  rintro e w' ⟨rfl, hw⟩
  rw [hw]
  clear hw
  obtain ⟨I, hI⟩ : ∃ I, Lib.indexByte s.data.toList 10 = I := ⟨_, rfl⟩
  have hf := line_idx s.data.toList I hI
  rw [hI]
  clear hI
  rcases hf with ⟨rfl, hr⟩ | rfl
  · rw [size_len] at hr
    have HR : Hid (Plain.run Plain.notNl s.data.toList = s.size) := hr
    clear hr
    go_wp2
    go_ret2
    exact ⟨by rw [HR.out]; rfl, Below.refl _ _⟩
  · go_wp2
    go_ret2
    exact ⟨rfl, Below.refl _ _⟩

set_option maxHeartbeats 1000000 in
set_option maxRecDepth 100000 in
theorem tok_line (b c : Nat) (s : ByteArray) (w : World) (hs : s.size ≤ 1048576) (h0 : 0 < s.size) (hc : s.size ≤ c) (hlt : b < w.heap.size) (hb : Lib.Bytes w b 0 s) (h35 : s[0] ≠ 35) (h : Lib.hasPrefix s.data.toList [47, 47] = true) :
    Calls Try.prog 31 #[.slice (some ⟨b, 0, none⟩) s.size c] w fun e w' => e = .returned (.tuple #[.int .i64 6, .int .i64 (Plain.run Plain.notNl s.data.toList)]) ∧ Below w.heap.size w w' := by
  obtain ⟨x, hx⟩ : ∃ x, s[0] = x := ⟨_, rfl⟩
  have hc0 : w.cell? ⟨b, 0, none⟩ = some (.int .u8 (x.toNat : Int)) := by have := hb 0 h0; rw [hx] at this; exact this
  rw [hx] at h35
  have h35' : ((x.toNat : Int) == 35) = false := eq_no x 35 (by decide) h35
  have HB : Hid (Lib.Bytes w b 0 s) := hb
  have HB1 : Hid (Lib.Bytes (w.alloc (.cells #[.int .u8 47, .int .u8 47] 5 (2, 3))) b 0 s) := bytes_alloc hb hlt _
  have HT : Hid (Two (w.alloc (.cells #[.int .u8 47, .int .u8 47] 5 (2, 3))) w.heap.size 47 47) := two_new w 47 47
  have kc := conv_const
  clear hb hx h35
  go_enter Try.func31, Try.ntmps31
  go_wp2_with fail
  refine (prefix2 b c w.heap.size s 47 47 _ hc HB1.out HT.out).mono ?_
  rintro e w' ⟨rfl, hw⟩
  rw [hw, h]
  clear hw
  go_wp2_with fail
  refine (idx10 b c s _ HB1.out).mono ?_
  rintro e w' ⟨rfl, hw⟩
  rw [hw]
  clear hw
  obtain ⟨I, hI⟩ : ∃ I, Lib.indexByte s.data.toList 10 = I := ⟨_, rfl⟩
  have hf := line_idx s.data.toList I hI
  rw [hI]
  clear hI
  rcases hf with ⟨rfl, hr⟩ | rfl
  · rw [size_len] at hr
    have HR : Hid (Plain.run Plain.notNl s.data.toList = s.size) := hr
    clear hr
    go_wp2
    go_ret2
    exact ⟨by rw [HR.out]; rfl, (Below.refl _ _).alloc (Nat.le_refl _) _⟩
  · go_wp2
    go_ret2
    exact ⟨rfl, (Below.refl _ _).alloc (Nat.le_refl _) _⟩

/-- What the walk keeps of memory: src's bytes, old memory, MaxLen's cell. -/
def St (w w1 : World) (b : Nat) (s : ByteArray) (m : Int) : Prop := Lib.Bytes w1 b 0 s ∧ Below w.heap.size w w1 ∧ b < w1.heap.size ∧ w1.cell? ⟨0, 0, none⟩ = some (.int .i64 m)

theorem St.alloc {w w1 : World} {b : Nat} {s : ByteArray} {m : Int} (h : St w w1 b s m) (o : Obj) : St w (w1.alloc o) b s m := by
  obtain ⟨h1, h2, h3, h4⟩ := h
  exact ⟨bytes_alloc h1 h3 o, h2.alloc h2.size o, by simp; omega, Lib.cell?_alloc_marked o h4⟩
theorem St.drewN {w w1 : World} {b : Nat} {s : ByteArray} {m : Int} (h : St w w1 b s m) (n : Nat) : St w (w1.drewN n) b s m := by
  obtain ⟨h1, h2, h3, h4⟩ := h
  exact ⟨h1.drewN n, below_drewN h2 n, h3, by simpa using h4⟩
theorem St.start {w : World} {b : Nat} {s : ByteArray} {m : Int} (h1 : Lib.Bytes w b 0 s) (h2 : b < w.heap.size) (h3 : w.cell? ⟨0, 0, none⟩ = some (.int .i64 m)) : St w w b s m := ⟨h1, Below.refl _ _, h2, h3⟩
theorem St.at {w w1 : World} {b : Nat} {s : ByteArray} {m : Int} (h : St w w1 b s m) (k : Nat) (hk : k < s.size) : w1.cell? ⟨b, k, none⟩ = some (.int .u8 (s[k].toNat : Int)) := by simpa using h.1 k hk

/-- What Index's answer tells. -/
theorem block_len (l : List UInt8) (I : Int) (h : Lib.index (l.drop 2) [42, 47] = I) : (I = -1 ∧ Plain.orAll ((Plain.bc (l.drop 2) 2).map (· + 2)) l.length = l.length) ∨ ∃ n : Nat, I = n ∧ n ≤ l.length ∧ Plain.orAll ((Plain.bc (l.drop 2) 2).map (· + 2)) l.length = 2 + n + 2 := by
  rw [index_bc _ 2] at h
  cases hb : Plain.bc (l.drop 2) 2 with
  | none => rw [hb] at h; exact .inl ⟨h.symm, rfl⟩
  | some i =>
    rw [hb] at h
    have hbd := Plain.bc_bd _ _ _ hb
    have hl : (l.drop 2).length ≤ l.length := by rw [List.length_drop]; omega
    have hl2 : (l.drop 2).length = l.length - 2 := by rw [List.length_drop]
    refine .inr ⟨i - 2, by rw [← h]; simp; omega, by omega, ?_⟩
    show i + 2 = _
    omega

set_option maxHeartbeats 1000000 in
set_option maxRecDepth 100000 in
theorem tok_block (b c : Nat) (s : ByteArray) (m : Int) (w : World) (hs : s.size ≤ 1048576) (h0 : 2 ≤ s.size) (hc : s.size ≤ c) (hlt : b < w.heap.size) (hb : Lib.Bytes w b 0 s) (hm : w.cell? ⟨0, 0, none⟩ = some (.int .i64 m))
    (h35 : s[0] ≠ 35) (hp1 : Lib.hasPrefix s.data.toList [47, 47] = false) (hp2 : Lib.hasPrefix s.data.toList [47, 42] = true) :
    Calls Try.prog 31 #[.slice (some ⟨b, 0, none⟩) s.size c] w fun e w' => e = .returned (.tuple #[.int .i64 6, .int .i64 (Plain.orAll ((Plain.bc (s.data.toList.drop 2) 2).map (· + 2)) s.size)]) ∧ Below w.heap.size w w' := by
  obtain ⟨x, hx⟩ : ∃ x, s[0] = x := ⟨_, rfl⟩
  have hc0 : w.cell? ⟨b, 0, none⟩ = some (.int .u8 (x.toNat : Int)) := by have := hb 0 (by omega); rw [hx] at this; exact this
  rw [hx] at h35
  have h35' : ((x.toNat : Int) == 35) = false := eq_no x 35 (by decide) h35
  have kc := conv_const
  have S1 : Hid (St w (w.alloc (.cells #[.int .u8 47, .int .u8 47] 5 (2, 3))) b s m) := (St.start hb hlt hm).alloc _
  have T1 : Hid (Two (w.alloc (.cells #[.int .u8 47, .int .u8 47] 5 (2, 3))) w.heap.size 47 47) := two_new w 47 47
  clear hb hx h35 hm
  go_enter Try.func31, Try.ntmps31
  go_wp2_with fail
  refine (prefix2 b c w.heap.size s 47 47 _ hc S1.out.1 T1.out).mono ?_
  rintro e w' ⟨rfl, hw⟩
  rw [hw, hp1]
  clear hw T1
  generalize w.alloc (.cells #[.int .u8 47, .int .u8 47] 5 (2, 3)) = w1 at S1 ⊢
  have S2 : Hid (St w (w1.alloc (.cells #[.int .u8 47, .int .u8 42] 5 (2, 3))) b s m) := S1.out.alloc _
  have T2 : Hid (Two (w1.alloc (.cells #[.int .u8 47, .int .u8 42] 5 (2, 3))) w1.heap.size 47 42) := two_new w1 47 42
  go_wp2_with fail
  refine (prefix2 b c w1.heap.size s 47 42 _ hc S2.out.1 T2.out).mono ?_
  rintro e w' ⟨rfl, hw⟩
  rw [hw, hp2]
  clear hw T2
  generalize w1.alloc (.cells #[.int .u8 47, .int .u8 42] 5 (2, 3)) = w2 at S2 ⊢
  have S3 : Hid (St w (w2.alloc (.cells #[.int .u8 42, .int .u8 47] 5 (2, 3))) b s m) := S2.out.alloc _
  have T3 : Hid (Two (w2.alloc (.cells #[.int .u8 42, .int .u8 47] 5 (2, 3))) w2.heap.size 42 47) := two_new w2 42 47
  clear S1 S2 hc0
  have hs2 : (2 : Int) ≤ (s.size : Int) := by omega
  by_cases hc2 : c = 2
  · have hs0 : s.size - 2 = 0 := by omega
    have HF : Hid (Plain.orAll ((Plain.bc (s.data.toList.drop 2) 2).map (· + 2)) s.size = s.size) := by
      show _ = _
      rw [List.drop_of_length_le (by rw [size_len]; omega)]
      rfl
    subst hc2
    go_wp2_with fail
    refine (block_none _ _ _ _).mono ?_
    rintro e w' ⟨rfl, hw⟩
    rw [hw]
    clear hw
    go_wp2
    go_ret2
    exact ⟨by rw [HF.out]; rfl, S3.out.2.1⟩
  · go_wp2_with fail
    refine (block_at b _ w2.heap.size s m _ hs h0 (by omega) S3.out.1 T3.out S3.out.2.2.2).mono ?_
    rintro e w' ⟨rfl, q, hw⟩
    rw [hw]
    have S4 : Hid (Below w.heap.size w ((w2.alloc (.cells #[.int .u8 42, .int .u8 47] 5 (2, 3))).drewN q)) := (S3.out.drewN q).2.1
    clear hw S3 T3
    generalize (w2.alloc (.cells #[.int .u8 42, .int .u8 47] 5 (2, 3))).drewN q = w3 at S4 ⊢
    obtain ⟨I, hI⟩ : ∃ I, Lib.index (s.data.toList.drop 2) [42, 47] = I := ⟨_, rfl⟩
    have hf := block_len s.data.toList I hI
    rw [hI]
    rw [size_len] at hf
    clear hI
    rcases hf with ⟨rfl, hr⟩ | ⟨n, rfl, hn, hr⟩
    · have HR : Hid (Plain.orAll ((Plain.bc (s.data.toList.drop 2) 2).map (· + 2)) s.size = s.size) := hr
      clear hr
      go_wp2
      go_ret2
      exact ⟨by rw [HR.out]; rfl, S4.out⟩
    · have HR : Hid (Plain.orAll ((Plain.bc (s.data.toList.drop 2) 2).map (· + 2)) s.size = 2 + n + 2) := hr
      clear hr
      go_wp2
      go_ret2
      exact ⟨by rw [HR.out]; simp, S4.out⟩
end Go.Proofs.Qxb6604796a
