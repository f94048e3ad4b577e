/-
  THE LAW's OWN WALK (4).
-/
import Derived.Test.Qxb6604202aSkip
import Derived.Laws.Strings2
namespace Go.Proofs.Qxb6604202a
open Go.RowKit

set_option maxHeartbeats 400000 in
theorem walk_long (s : ByteArray) (w : World) (hs : 1048576 < s.size) :
    Calls Try.prog 4 #[.string s] w fun e w' => e = .returned (.bool true) ∧ Below w.heap.size w w' := by
  go_enter Try.func4, Try.ntmps4
  go_wp2_with (go_at_call 11; refine (bytes_no _ _ hs).mono ?_; rintro e w' ⟨rfl, hw⟩; rw [hw]; clear hw)
  go_ret
  exact ⟨rfl, Below.refl _ _⟩

theorem skip_le (l : List UInt8) : (skip l).2 ≤ l.length := by
  unfold skip
  split
  · split
    · rename_i m hm
      have := Plain.qend_bound _ _ _ hm
      have h2 : (l.drop 1).length = l.length - 1 := by simp
      show m ≤ _
      by_cases h : 1 ≤ l.length
      · omega
      · omega
    · exact Nat.zero_le _
  · exact (Plain.take1_spec l).1

theorem get_list (s : ByteArray) (k : Nat) (h : k < s.size) : s.data.toList[k]? = some s[k] := Lib.data_getElem? s k h

theorem head_of (s : ByteArray) (h : 0 < s.size) : s.data.toList.head? = some s[0] := by
  rw [List.head?_eq_getElem?]; exact get_list s 0 h

/-- What is taken of an unquoted s holds no delimiter. -/
theorem plain_taken (s p : ByteArray) (ok : Bool) (n : Nat) (hq : s.data.toList.head? ≠ some 34) (hsk : skip s.data.toList = (ok, n)) (hp : s.extract 0 n = p) :
    ∀ (k : Nat) (h : k < p.size), Plain.delim p[k] = false := by
  intro k h
  rw [skip, if_neg hq] at hsk
  obtain ⟨t1, t2, _⟩ := Plain.take1_spec s.data.toList
  rw [size_len] at t1
  have hn : Plain.take1 s.data.toList = n := (Prod.mk.inj hsk).2
  rw [hn] at t1 t2
  have hpn : p.size = n := by rw [← hp]; simp; omega
  have hks : k < s.size := by omega
  have e : p[k] = s[k] := by
    subst hp
    simp [ByteArray.getElem_extract]
  rw [e]
  exact t2 k _ (by omega) (get_list s k hks)

/-- What is left of an unquoted s is empty, or opens with a delimiter. -/
theorem plain_left (s t : ByteArray) (ok : Bool) (n : Nat) (hq : s.data.toList.head? ≠ some 34) (hsk : skip s.data.toList = (ok, n)) (ht : s.extract n s.size = t) :
    ∀ h : 0 < t.size, Plain.delim t[0] = true := by
  intro h
  rw [skip, if_neg hq] at hsk
  obtain ⟨t1, _, t3⟩ := Plain.take1_spec s.data.toList
  rw [size_len] at t1
  have hn : Plain.take1 s.data.toList = n := (Prod.mk.inj hsk).2
  rw [hn] at t1 t3
  have htn : t.size = s.size - n := by rw [← ht]; simp
  have hks : n < s.size := by omega
  have e : t[0] = s[n] := by
    subst ht
    simp [ByteArray.getElem_extract]
  rw [e]
  exact t3 _ (get_list s n hks)

/-- What is taken of a closed quoted string. -/
theorem quoted_taken (s p : ByteArray) (m : Nat) (hq : s.data.toList.head? = some 34) (hqe : Plain.qend (s.data.toList.drop 1) 1 = some m) (hp : s.extract 0 m = p) :
    2 ≤ p.size ∧ (∀ h : p.size - 1 < p.size, p[p.size - 1]'h = 34) ∧ Plain.units false (p.extract 1 (p.size - 1)).data.toList = true := by
  obtain ⟨body, rest, e1, e2, e3⟩ := Plain.qend_some _ _ _ hqe
  have hl : s.data.toList = 34 :: (body ++ 34 :: rest) := by
    cases e : s.data.toList with
    | nil => rw [e] at hq; simp at hq
    | cons c l =>
      rw [e] at hq e1
      simp at hq e1
      rw [hq, e1]
  have hpl : p.data.toList = 34 :: (body ++ [34]) := by
    rw [← hp, ByteArray.data_extract, Array.toList_extract, hl, e2]
    simp [List.take_append, List.take_of_length_le]
  have hsz : p.size = body.length + 2 := by rw [← size_len, hpl]; simp
  refine ⟨by omega, fun h => ?_, ?_⟩
  · have h1 := get_list p (p.size - 1) h
    have h2 : p.data.toList[p.size - 1]? = some 34 := by rw [hpl, hsz]; simp
    rw [h1] at h2
    exact Option.some.inj h2
  · have : (p.extract 1 (p.size - 1)).data.toList = body := by
      rw [ByteArray.data_extract, Array.toList_extract, hpl, hsz]
      simp
    rw [this]
    exact e3

theorem rest_list (t : ByteArray) : (t.extract 1 t.size).data.toList = t.data.toList.drop 1 := by
  rw [ByteArray.data_extract, Array.toList_extract]
  simp
  rw [List.take_of_length_le (by simp)]

theorem empty_iff (t : ByteArray) : t.toList = [] ↔ t.size = 0 := by
  rw [Lib.toList_data, ← size_len, List.length_eq_zero_iff]

theorem ok_p (ok : Bool) (n : Nat) (p : ByteArray) (h1 : ok = decide (0 < n)) (h2 : p.size = n) : (ok == !p.toList.isEmpty) = true := by
  have h3 : p.toList.length = n := by rw [Lib.toList_data, size_len]; exact h2
  rw [h1]
  cases e : p.toList with
  | nil => rw [e] at h3; simp at h3; simp [← h3]
  | cons _ _ => rw [e] at h3; simp at h3; simp; omega

set_option maxHeartbeats 400000 in
theorem walk_short (s : ByteArray) (w : World) (hs : s.size ≤ 1048576) :
    Calls Try.prog 4 #[.string s] w fun e w' => e = .returned (.bool true) ∧ Below w.heap.size w w' := by
  have hs' : ¬ (1048576 : Int) < (s.size : Int) := by omega
  go_enter Try.func4, Try.ntmps4
  go_wp2_with (go_at_call 11; refine (bytes_yes _ _ hs).mono ?_; rintro e w' ⟨rfl, hw⟩; rw [hw]; clear hw)
  refine (skip_any s w.heap.size _ hs (by simp) (by simp) (by simp)).mono ?_
  rintro e w1 ⟨rfl, hc, hb⟩
  have hb' : Below w.heap.size w w1 := ((Below.refl _ _).alloc (Nat.le_refl _) _).trans hb
  clear hb
  have hle := skip_le s.data.toList
  rw [size_len] at hle
  obtain ⟨⟨ok, n⟩, hsk⟩ : ∃ p, skip s.data.toList = p := ⟨_, rfl⟩
  rw [hsk] at hc hle
  rw [hsk]
  have HS : Hid (skip s.data.toList = (ok, n)) := hsk
  clear hsk
  simp only at hc hle ⊢
  obtain ⟨t, ht⟩ : ∃ t, s.extract n s.size = t := ⟨_, rfl⟩
  rw [ht] at hc
  have htz : t.size = s.size - n := by rw [← ht]; simp
  have hg : decide (s.size < t.size) = false := decide_eq_false (by omega)
  have hi1 : t.size ≤ s.size := by omega
  have hi2 : s.size - t.size = n := by omega
  have HT : Hid (t.size = s.size - n) := htz
  clear htz
  go_wp2_with fail
  go_quiet (fail)
  have hbq := below_drewN hb' nq
  have hcq : (w1.drewN nq).cell? ⟨w.heap.size, 0, none⟩ = some (.string t) := by simpa using hc
  clear hb' hc
  generalize w1.drewN nq = w2 at hbq hcq ⊢
  by_cases h0 : s.size = 0
  · have hse : s = ByteArray.empty := by
      apply ByteArray.ext
      apply Array.ext'
      exact List.length_eq_zero_iff.1 (by rw [size_len]; exact h0)
    subst hse
    have hon : skip ByteArray.empty.data.toList = (false, 0) := rfl
    obtain ⟨rfl, rfl⟩ := Prod.mk.inj (hon.symm.trans HS.out)
    obtain rfl : ByteArray.empty = t := by rw [← ht]; rfl
    have hpe : ByteArray.empty.extract 0 0 = ByteArray.empty := rfl
    clear hg hi1 hi2 ht hle
    go_wp2_with fail
    go_loop [6] (fun i => i = .int .i64 0) (fun _ => 0)
    case atStart => rfl
    case round =>
      subst hrel
      go_wp2
      go_ret
      exact ⟨rfl, hbq⟩
  · have h0' : 0 < s.size := by omega
    have h0z : ((s.size : Int) == 0) = false := beq_eq_false_iff_ne.2 (by omega)
    obtain ⟨p, hp⟩ : ∃ p, s.extract 0 n = p := ⟨_, rfl⟩
    have hpz : p.size = n := by rw [← hp]; simp; omega
    have HP : Hid (p.size = n) := hpz
    by_cases hq : s.data.toList.head? = some 34
    · have hx : s[0] = 34 := by rw [head_of s h0'] at hq; exact Option.some.inj hq
      have hqs := HS.out
      rw [skip, if_pos hq] at hqs
      cases hqe : Plain.qend (s.data.toList.drop 1) 1 with
      | none =>
        rw [hqe] at hqs
        obtain ⟨rfl, rfl⟩ := Prod.mk.inj hqs
        obtain rfl : t = s := by rw [← ht]; simp
        have hu : Plain.units true (t.extract 1 t.size).data.toList = true := by
          have := Plain.qend_none _ _ hqe
          rw [rest_list]
          exact this
        clear hqs hqe hg hi1 hi2 ht hpz hq
        go_wp2_with (go_at_call 14; refine (units_any _ _ _ (by simp; omega)).mono ?_; rintro e w' ⟨rfl, hw⟩; rw [hw, hu]; clear hw)
        go_ret
        exact ⟨rfl, hbq⟩
      | some m =>
        rw [hqe] at hqs
        obtain ⟨rfl, rfl⟩ := Prod.mk.inj hqs
        obtain ⟨hp2, hpl, hub⟩ := quoted_taken s p m hq hqe hp
        have hpl' := hpl (by omega)
        have hpm : p.size ≤ 1048576 := by omega
        have hsl : ∀ W, (Instr.slice 9 (.string p) (some (.int .i64 1)) (some (.int .i64 ((p.size : Int) - 1))) none).run Try.prog W = .ok (.string (p.extract 1 (p.size - 1))) W := fun W => by
          rw [run_slice_string W 9 p .i64 .i64 1 ((p.size : Int) - 1) Try.underlying9 (by omega) (by omega) (by omega)]
          have e1 : ((p.size : Int) - 1).toNat = p.size - 1 := by omega
          rw [e1]
          rfl
        clear hqs hqe hpz hq hpl
        go_wp2_with (go_at_call 14; refine (units_any _ _ _ (by simp; omega)).mono ?_; rintro e w' ⟨rfl, hw⟩; rw [hw, hub]; clear hw)
        go_ret
        exact ⟨rfl, hbq⟩
    · have hpl := plain_taken s p ok n hq HS.out hp
      have htl := plain_left s t ok n hq HS.out ht
      have hx : ((s[0].toNat : Int) != 34) = true := by
        rw [head_of s h0'] at hq
        rw [bne_iff_ne]
        intro e
        apply hq
        rw [is_of s[0] 34 (by decide) (beq_iff_eq.2 e)]
        rfl
      have HL : Hid ((∀ (k : Nat) (h : k < p.size), Plain.delim p[k] = false) ∧ (∀ h : 0 < t.size, Plain.delim t[0] = true)) := ⟨hpl, htl⟩
      have HOK : Hid (ok = decide (0 < n)) := by
        have h := HS.out
        rw [skip, if_neg hq] at h
        have e1 := (Prod.mk.inj h).1
        have e2 := (Prod.mk.inj h).2
        show _ = _
        rw [← e1, e2]
      have hpm : p.size ≤ 1048576 := by omega
      clear hpl htl hq hpz
      go_wp2_with fail
      go_loop [6] (fun i => ∃ k : Nat, k ≤ p.size ∧ i = .int .i64 k) (fun i => p.size - (intOf i).toNat)
      case atStart => exact ⟨0, by omega, rfl⟩
      case round =>
        obtain ⟨k, hk, rfl⟩ := hrel
        by_cases hlt : k < p.size
        · have hd := HL.out.1 k hlt
          go_wp2_with (go_at_call 13; refine (delim_any _ _).mono ?_; rintro e w' ⟨rfl, hw⟩; rw [hw, hd]; clear hw)
          go_round
          case rel => exact ⟨k + 1, by omega, by go_num⟩
          case measure => simp [intOf]; omega
        · have hok := ok_p ok n p HOK.out HP.out
          by_cases ht0 : t.size = 0
          · have hte : t.toList = [] := (empty_iff t).2 ht0
            go_wp2
            go_ret
            exact ⟨rfl, hbq⟩
          · have hte : ¬ t.toList = [] := fun e => ht0 ((empty_iff t).1 e)
            have ht1 : 0 < t.size := by omega
            have hd := HL.out.2 ht1
            go_wp2_with (go_at_call 13; refine (delim_any _ _).mono ?_; rintro e w' ⟨rfl, hw⟩; rw [hw, hd]; clear hw)
            go_ret
            exact ⟨rfl, hbq⟩
end Go.Proofs.Qxb6604202a
