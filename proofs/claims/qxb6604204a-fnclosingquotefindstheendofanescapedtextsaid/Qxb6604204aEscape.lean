/-
  THE SECOND LAW's OWN WALK (4).
-/
import Derived.Test.Qxb6604204aBuf
namespace Go.Proofs.Qxb6604204a
open Go.RowKit

set_option maxHeartbeats 400000 in
theorem esc_big (a a' : Option Addr) (n c n' c' : Nat) (w : World) (h1 : n ≤ maxLen) (h2 : n' ≤ maxLen) (h : 262144 < n ∨ 262144 < n') :
    Calls Try.prog 4 #[.slice a n c, .slice a' n' c'] w fun e w' => e = .returned (.bool true) ∧ Below w.heap.size w w' := by
  go_enter Try.func4, Try.ntmps4
  go_wp2_with fail
  refine (bytes2_any _ _ _ _ _ _ _ h1 h2).mono ?_
  rintro e w' ⟨⟨x, rfl⟩, hw⟩
  rw [hw]
  clear hw
  cases x
  · go_wp2
    go_ret
    exact ⟨rfl, Below.refl _ _⟩
  · by_cases hn : 262144 < n
    · have hn' : (262144 : Int) < (n : Int) := by omega
      go_wp2
      go_ret
      exact ⟨rfl, Below.refl _ _⟩
    · have hn' : ¬ (262144 : Int) < (n : Int) := by omega
      have hn2 : (262144 : Int) < (n' : Int) := by omega
      go_wp2
      go_ret
      exact ⟨rfl, Below.refl _ _⟩

theorem Plain.quoted_le : ∀ l : List UInt8, (Plain.quoted l).length ≤ 2 * l.length
  | [] => Nat.le_refl _
  | c :: l => by
    have := Plain.quoted_le l
    unfold Plain.quoted
    split <;> simp <;> omega

theorem Buf.alloc {w : World} {B g cap : Nat} {l : List UInt8} (h : Buf w B g cap l) (o : Obj) : Buf (w.alloc o) B g cap l := World.ownsRow.alloc h o

/-- One byte appended to the buffer, there being room. -/
theorem append_byte {ops : Array Oper} {rest : List Oper} {o : Oper} {a : Act} {Q : Exit → Act → World → Prop} (w : World) (hgd : o.guard = none) (s x : Operand)
    (ho : o.op = .call { callee := .builtin .append, args := #[s, x], argTypes := #[22, 22] }) (G cap : Nat) (L : List UInt8) (n : Nat) (hn : L.length = n) (c : UInt8) (H : Nat)
    (hs : a.eval s = .slice (some ⟨G, 0, none⟩) n cap) (hx : a.eval x = .slice (some ⟨H, 0, none⟩) 1 1) (hown : Buf w G G cap L) (hcell : w.cell? ⟨H, 0, none⟩ = some (.int .u8 c.toNat)) (hroom : n + 1 ≤ cap)
    (h : ∀ w', Buf w' G G cap (L ++ [c]) → w.grownBy w' (some G) → wpList Try.prog ops Q rest (a.put o.dst (.slice (some ⟨G, 0, none⟩) (n + 1) cap)) w') : wpList Try.prog ops Q (o :: rest) a w := by
  subst hn
  obtain ⟨i0, hi, hz1⟩ := info5
  refine wpList_append_own_spare w hgd s x 22 ho G 5 i0 1 Try.underlying22 hi hz1 G L.length cap _ hs hown ⟨H, 0, none⟩ 1 1 [.int .u8 c.toNat] hx rfl ?_ ?_ hroom (fun w' h1 h2 => h w' (Buf.snoc h1) h2)
  · intro j u hj
    match j, hj with
    | 0, hj => simp at hj; subst hj; simpa [Addr.add] using hcell
  · intro u hu
    simp at hu
    subst hu
    rfl

theorem Plain.quoted_snoc (c : UInt8) : ∀ l : List UInt8, Plain.quoted (l ++ [c]) = Plain.quoted l ++ (if c = 34 ∨ c = 92 then [92, c] else [c])
  | [] => by simp [Plain.quoted]
  | d :: l => by
    have ih := Plain.quoted_snoc c l
    simp only [List.cons_append]
    rw [Plain.quoted, ih, Plain.quoted]
    split <;> rfl

theorem take_snoc (s : ByteArray) (k : Nat) (h : k < s.size) : s.data.toList.take (k + 1) = s.data.toList.take k ++ [s[k]] := by
  rw [List.take_succ_eq_append_getElem (by simpa using h)]; rfl

theorem quoted_esc (s : ByteArray) (k : Nat) (h : k < s.size) (hc : ((s[k].toNat : Int) == 34) = true ∨ ((s[k].toNat : Int) == 92) = true) :
    Plain.quoted (s.data.toList.take (k + 1)) = Plain.quoted (s.data.toList.take k) ++ [92, s[k]] := by
  rw [take_snoc s k h, Plain.quoted_snoc, if_pos]
  · rcases hc with hc | hc
    · exact .inl (is_of _ 34 (by decide) hc)
    · exact .inr (is_of _ 92 (by decide) hc)
theorem quoted_plain (s : ByteArray) (k : Nat) (h : k < s.size) (h1 : ((s[k].toNat : Int) == 34) = false) (h2 : ((s[k].toNat : Int) == 92) = false) :
    Plain.quoted (s.data.toList.take (k + 1)) = Plain.quoted (s.data.toList.take k) ++ [s[k]] := by
  rw [take_snoc s k h, Plain.quoted_snoc, if_neg]
  intro hc
  rcases hc with hc | hc
  · exact not_of _ 34 (by decide) h1 hc
  · exact not_of _ 92 (by decide) h2 hc

/-- What a byte's append leaves of old memory. -/
theorem grown_below {B : Nat} {w0 w : World} {o : Obj} {w' : World} (hb : Below B w0 w) (hB : B ≤ w.heap.size) (hg : (w.alloc o).grownBy w' (some B)) : Below B w0 w' :=
  (hb.alloc hB o).grown hg (by simp; omega) (fun k hk => by cases hk; exact Nat.le_refl _)

/-- closingQuote on the whole buffer. -/
theorem zbuf (X T : ByteArray) (L : List UInt8) (w : World) (G cap : Nat) (hL : Plain.quoted X.data.toList = L) (h1 : L.length + 1 + T.size ≤ 1048576) (h2 : L.length + 1 + T.size ≤ cap)
    (hb : Buf w G G cap (L ++ 34 :: T.data.toList.take T.size)) :
    Calls Try.prog 10 #[.slice (some ⟨G, 0, none⟩) (L.length + 1 + T.size) cap] w fun e w' => e = .returned (.int .i64 L.length) ∧ w' = w := by
  rw [List.take_of_length_le (by rw [size_len]; exact Nat.le_refl _)] at hb
  have hsz : (⟨(L ++ 34 :: T.data.toList).toArray⟩ : ByteArray).size = L.length + 1 + T.size := by
    show (L ++ 34 :: T.data.toList).toArray.size = _
    rw [List.size_toArray, List.length_append, List.length_cons, size_len]
    omega
  have h := zclosing_some G 0 cap ⟨(L ++ 34 :: T.data.toList).toArray⟩ w (by omega) (by omega) hb.bytes
  rw [hsz] at h
  refine h.mono fun e w' ⟨h3, h4⟩ => ⟨?_, h4⟩
  rw [h3]
  refine ret_int ?_
  show Plain.scan (L ++ 34 :: T.data.toList) 0 = _
  rw [← hL, Plain.scan_quoted]
  simp

set_option maxHeartbeats 2000000 in
theorem esc_walk (a a' : Option Addr) (c c' : Nat) (X T : ByteArray) (w : World) (h1 : X.size ≤ 262144) (h2 : T.size ≤ 262144) (hX : Came w a c X) (hT : Came w a' c' T) :
    Calls Try.prog 4 #[.slice a X.size c, .slice a' T.size c'] w fun e w' => e = .returned (.bool true) ∧ Below w.heap.size w w' := by
  have g1 : ¬ (262144 : Int) < (X.size : Int) := by omega
  have g2 : ¬ (262144 : Int) < (T.size : Int) := by omega
  have HX : Hid (Came w a c X ∧ Came w a' c' T) := ⟨hX, hT⟩
  clear hX hT
  obtain ⟨i0, hi, hz1⟩ := info5
  have hmk : ∀ W : World, (Instr.makeSlice 22 (.int .i64 0) (.int .i64 (2 * (X.size : Int) + 1 + (T.size : Int)))).run Try.prog W = .ok (.slice (some ⟨W.heap.size, 0, none⟩) 0 (2 * X.size + 1 + T.size)) (W.alloc (.cells (rowOf (List.replicate (2 * X.size + 1 + T.size) 0)) 5)) := fun W => by
    have := make_any W 0 (2 * X.size + 1 + T.size) (Nat.zero_le _) (by omega)
    rw [← this]
    congr 3
  go_enter Try.func4, Try.ntmps4
  go_wp2_with (go_at_call 12; refine (bytes2_yes _ _ _ _ _ _ _ h1 h2).mono ?_; rintro e w' ⟨rfl, hw⟩; rw [hw]; clear hw)
  refine (clone_any a c X w (by omega) HX.out.1).mono ?_
  rintro e w1 ⟨ax, rfl, hr1, hb1⟩
  have HR1 : Hid (Reads w1 ax X ∧ Below w.heap.size w w1) := ⟨hr1, hb1⟩
  clear hr1 hb1
  go_wp2_with fail
  refine (clone_any a' c' T w1 (by omega) (HX.out.2.below HR1.out.2)).mono ?_
  rintro e w2 ⟨at', rfl, hr2, hb2⟩
  have HR : Hid (Reads w2 ax X ∧ Reads w2 at' T ∧ Below w.heap.size w w2) := ⟨HR1.out.1.below hb2, hr2, HR1.out.2.trans (hb2.mono HR1.out.2.size)⟩
  clear hr2 hb2 HR1
  go_wp2_with fail
  have HB0 := Buf.made w2 (2 * X.size + 1 + T.size) (by omega)
  have HBl0 : Below w2.heap.size w2 (w2.alloc (.cells (rowOf (List.replicate (2 * X.size + 1 + T.size) 0)) 5)) := (Below.refl _ _).alloc (Nat.le_refl _) _
  obtain ⟨cap, hcap⟩ : ∃ cap, 2 * X.size + 1 + T.size = cap := ⟨_, rfl⟩
  rw [hcap] at HB0 HBl0 ⊢
  obtain ⟨G, hG⟩ : ∃ G, w2.heap.size = G := ⟨_, rfl⟩
  have hG1 : G < (w2.alloc (.cells (rowOf (List.replicate cap 0)) 5)).heap.size := by simp; omega
  generalize w2.alloc (.cells (rowOf (List.replicate cap 0)) 5) = w3 at HB0 HBl0 hG1 ⊢
  rw [hG] at HB0 HBl0 ⊢
  have HW : Hid (Buf w3 G G cap [] ∧ Below G w2 w3 ∧ w2.heap.size = G ∧ 2 * X.size + 1 + T.size = cap) := ⟨HB0, HBl0, hG, hcap⟩
  have hcap' : 2 * X.size + 1 + T.size ≤ cap := by omega
  clear HB0 HBl0 hG hcap hmk
  go_loopg [5, 6] X.size (fun g s5 s6 wx => ∃ k : Nat, k + g = X.size ∧ s6 = .int .i64 k ∧ s5 = .slice (some ⟨G, 0, none⟩) (Plain.quoted (X.data.toList.take k)).length cap ∧
    Buf wx G G cap (Plain.quoted (X.data.toList.take k)) ∧ Below G w2 wx ∧ G < wx.heap.size)
  case atStart => exact ⟨0, by omega, rfl, rfl, HW.out.1, HW.out.2.1, hG1⟩
  case round =>
    obtain ⟨k, hk, rfl, rfl, hbuf, hbel, hgw⟩ := hrel
    have HL : Hid (Buf wr G G cap (Plain.quoted (X.data.toList.take k)) ∧ Below G w2 wr) := ⟨hbuf, hbel⟩
    have hql := Plain.quoted_le (X.data.toList.take k)
    have htl : (X.data.toList.take k).length ≤ k := List.length_take_le _ _
    cases gk with
    | zero =>
      obtain rfl : k = X.size := by omega
      have hta : X.data.toList.take X.size = X.data.toList := List.take_of_length_le (by rw [size_len]; exact Nat.le_refl _)
      rw [hta] at HL hql ⊢
      rw [size_len] at hql
      obtain ⟨L, hL⟩ : ∃ L, Plain.quoted X.data.toList = L := ⟨_, rfl⟩
      rw [hL] at HL hql ⊢
      have HLL : Hid (Plain.quoted X.data.toList = L) := hL
      clear hta htl hbuf hbel hL
      go_wp2_with (at_builtin; refine append_byte _ rfl _ _ rfl G cap L L.length rfl 34 _ rfl rfl ?own ?cell ?room ?_)
      case own => exact HL.out.1.alloc _
      case cell => simp
      case room => omega
      intro w4 hb4 hg4
      have hgw4 : G < w4.heap.size := by have := hg4.size; simp at this; omega
      have H4 : Hid (Buf w4 G G cap (L ++ [34]) ∧ Below G w2 w4) := ⟨hb4, grown_below HL.out.2 (Nat.le_of_lt hgw) hg4⟩
      clear hb4 hg4
      go_wp2_with fail
      go_loopg [5, 8] T.size (fun g s5 s8 wx => ∃ k : Nat, k + g = T.size ∧ s8 = .int .i64 k ∧ s5 = .slice (some ⟨G, 0, none⟩) (L.length + 1 + k) cap ∧
        Buf wx G G cap (L ++ 34 :: T.data.toList.take k) ∧ Below G w2 wx ∧ G < wx.heap.size)
      case atStart => exact ⟨0, by omega, rfl, rfl, H4.out.1, H4.out.2, hgw4⟩
      case round =>
        obtain ⟨k, hk, rfl, rfl, hbuf, hbel, hgw5⟩ := hrel
        have H5 : Hid (Buf wr G G cap (L ++ 34 :: T.data.toList.take k) ∧ Below G w2 wr) := ⟨hbuf, hbel⟩
        clear hbuf hbel
        cases gk with
        | zero =>
          obtain rfl : k = T.size := by omega
          have hz := zbuf X T L wr G cap HLL.out (by omega) (by omega) H5.out.1
          have HZ : Hid (Calls Try.prog 10 #[.slice (some ⟨G, 0, none⟩) (L.length + 1 + T.size) cap] wr fun e w' => e = .returned (.int .i64 L.length) ∧ w' = wr) := hz
          clear hz
          go_wp2_with (go_at_call 10; refine HZ.out.mono ?_; rintro e w' ⟨rfl, hw⟩; rw [hw]; clear hw)
          go_ret
          exact ⟨by simp, HR.out.2.2.trans (H5.out.2.mono (by have := HW.out.2.2.1; have := HR.out.2.2.size; omega))⟩
        | succ g =>
          have hks : k < T.size := by omega
          obtain ⟨b, rfl, hbb, hcell⟩ := HR.out.2.1.at hks
          have hbG : b < G := by have := HW.out.2.2.1; omega
          obtain ⟨x, hx⟩ : ∃ x : UInt8, T[k] = x := ⟨_, rfl⟩
          have hck : wr.cell? ⟨b, k, none⟩ = some (.int .u8 (x.toNat : Int)) := by rw [H5.out.2.cell (p := ⟨b, k, none⟩) hbG, ← hx]; exact hcell
          have HE : Hid (L ++ 34 :: T.data.toList.take (k + 1) = L ++ 34 :: T.data.toList.take k ++ [x]) := by
            show _ = _
            rw [take_snoc T k hks, hx]
            simp
          have hlk : (T.data.toList.take k).length = k := by rw [List.length_take, size_len]; omega
          have HLK : Hid ((L ++ 34 :: T.data.toList.take k).length = L.length + 1 + k) := by
            show _ = _
            simp [hlk]
            omega
          clear hx hcell hlk
          obtain ⟨L2, hL2⟩ : ∃ L2, L ++ 34 :: T.data.toList.take k = L2 := ⟨_, rfl⟩
          rw [hL2] at H5 HE HLK
          clear hL2
          go_wp2_with (at_builtin; refine append_byte _ rfl _ _ rfl G cap L2 (L.length + 1 + k) HLK.out x _ rfl rfl ?own ?cell ?room ?_)
          case own => exact H5.out.1.alloc _
          case cell => simp
          case room => omega
          intro w6 hb6 hg6
          have H6 : Hid (Buf w6 G G cap (L2 ++ [x]) ∧ Below G w2 w6 ∧ G < w6.heap.size) := ⟨hb6, grown_below H5.out.2 (Nat.le_of_lt hgw5) hg6, by have := hg6.size; simp at this; omega⟩
          clear hb6 hg6
          go_wp2
          go_roundg g
          case measure => omega
          case rel => exact ⟨k + 1, by omega, by go_num, rfl, by rw [HE.out]; exact H6.out.1, H6.out.2⟩
    | succ g =>
      have hks : k < X.size := by omega
      obtain ⟨b, rfl, hbb, hcell⟩ := HR.out.1.at hks
      have hbG : b < G := by have := HW.out.2.2.1; omega
      have hck : wr.cell? ⟨b, k, none⟩ = some (.int .u8 (X[k].toNat : Int)) := by rw [HL.out.2.cell (p := ⟨b, k, none⟩) hbG]; exact hcell
      obtain ⟨x, hx⟩ : ∃ x : UInt8, X[k] = x := ⟨_, rfl⟩
      rw [hx] at hck
      obtain ⟨L, hL⟩ : ∃ L, Plain.quoted (X.data.toList.take k) = L := ⟨_, rfl⟩
      rw [hL] at hql HL ⊢
      have HLL : Hid (Plain.quoted (X.data.toList.take k) = L ∧ X[k] = x) := ⟨hL, hx⟩
      clear hL hx hcell hbuf hbel
      by_cases hq : ((x.toNat : Int) == 34) = true ∨ ((x.toNat : Int) == 92) = true
      · have HE : Hid (Plain.quoted (X.data.toList.take (k + 1)) = L ++ [92, x]) := by
          show _ = _
          rw [quoted_esc X k hks (by rw [HLL.out.2]; exact hq), HLL.out.1, HLL.out.2]
        rcases Bool.eq_false_or_eq_true ((x.toNat : Int) == 34) with h34 | h34
        · clear hq
          go_wp2_with (at_builtin; refine append_byte _ rfl _ _ rfl G cap L L.length rfl 92 _ rfl rfl ?own ?cell ?room ?_)
          case own => exact HL.out.1.alloc _
          case cell => simp
          case room => omega
          intro w4 hb4 hg4
          have hbl4 := grown_below HL.out.2 (Nat.le_of_lt hgw) hg4
          have hck4 : w4.cell? ⟨b, k, none⟩ = some (.int .u8 (x.toNat : Int)) := hg4.cell (a := ⟨b, k, none⟩) (by rw [World.cell?_alloc_lt (a := ⟨b, k, none⟩) _ _ (by simp; omega)]; exact hck) (by simp; omega)
          have hgw4 : G < w4.heap.size := by have := hg4.size; simp at this; omega
          have H4 : Hid (Buf w4 G G cap (L ++ [92]) ∧ Below G w2 w4) := ⟨hb4, hbl4⟩
          clear hb4 hg4 hbl4
          go_wp2_with (at_builtin; refine append_byte _ rfl _ _ rfl G cap (L ++ [92]) (L.length + 1) (by simp) x _ rfl rfl ?own ?cell ?room ?_)
          case own => exact H4.out.1.alloc _
          case cell => simp
          case room => omega
          intro w5 hb5 hg5
          have H5 : Hid (Buf w5 G G cap (L ++ [92, x]) ∧ Below G w2 w5 ∧ G < w5.heap.size) := ⟨hb5, grown_below H4.out.2 (Nat.le_of_lt hgw4) hg5, by have := hg5.size; simp at this; omega⟩
          clear hb5 hg5
          go_wp2
          go_roundg g
          case measure => omega
          case rel => exact ⟨k + 1, by omega, by go_num, by rw [HE.out]; simp, by rw [HE.out]; exact H5.out.1, H5.out.2⟩
        · have h92 : ((x.toNat : Int) == 92) = true := by
            rcases hq with h | h
            · rw [h] at h34; cases h34
            · exact h
          clear hq
          go_wp2_with (at_builtin; refine append_byte _ rfl _ _ rfl G cap L L.length rfl 92 _ rfl rfl ?own ?cell ?room ?_)
          case own => exact HL.out.1.alloc _
          case cell => simp
          case room => omega
          intro w4 hb4 hg4
          have hbl4 := grown_below HL.out.2 (Nat.le_of_lt hgw) hg4
          have hck4 : w4.cell? ⟨b, k, none⟩ = some (.int .u8 (x.toNat : Int)) := hg4.cell (a := ⟨b, k, none⟩) (by rw [World.cell?_alloc_lt (a := ⟨b, k, none⟩) _ _ (by simp; omega)]; exact hck) (by simp; omega)
          have hgw4 : G < w4.heap.size := by have := hg4.size; simp at this; omega
          have H4 : Hid (Buf w4 G G cap (L ++ [92]) ∧ Below G w2 w4) := ⟨hb4, hbl4⟩
          clear hb4 hg4 hbl4
          go_wp2_with (at_builtin; refine append_byte _ rfl _ _ rfl G cap (L ++ [92]) (L.length + 1) (by simp) x _ rfl rfl ?own ?cell ?room ?_)
          case own => exact H4.out.1.alloc _
          case cell => simp
          case room => omega
          intro w5 hb5 hg5
          have H5 : Hid (Buf w5 G G cap (L ++ [92, x]) ∧ Below G w2 w5 ∧ G < w5.heap.size) := ⟨hb5, grown_below H4.out.2 (Nat.le_of_lt hgw4) hg5, by have := hg5.size; simp at this; omega⟩
          clear hb5 hg5
          go_wp2
          go_roundg g
          case measure => omega
          case rel => exact ⟨k + 1, by omega, by go_num, by rw [HE.out]; simp, by rw [HE.out]; exact H5.out.1, H5.out.2⟩
      · have h34 : ((x.toNat : Int) == 34) = false := by
          cases h : ((x.toNat : Int) == 34) with
          | false => rfl
          | true => exact absurd (.inl h) hq
        have h92 : ((x.toNat : Int) == 92) = false := by
          cases h : ((x.toNat : Int) == 92) with
          | false => rfl
          | true => exact absurd (.inr h) hq
        have HE : Hid (Plain.quoted (X.data.toList.take (k + 1)) = L ++ [x]) := by
          show _ = _
          rw [quoted_plain X k hks (by rw [HLL.out.2]; exact h34) (by rw [HLL.out.2]; exact h92), HLL.out.1, HLL.out.2]
        clear hq
        go_wp2_with (at_builtin; refine append_byte _ rfl _ _ rfl G cap L L.length rfl x _ rfl rfl ?own ?cell ?room ?_)
        case own => exact HL.out.1.alloc _
        case cell => simp
        case room => omega
        intro w5 hb5 hg5
        have H5 : Hid (Buf w5 G G cap (L ++ [x]) ∧ Below G w2 w5 ∧ G < w5.heap.size) := ⟨hb5, grown_below HL.out.2 (Nat.le_of_lt hgw) hg5, by have := hg5.size; simp at this; omega⟩
        clear hb5 hg5
        go_wp2
        go_roundg g
        case measure => omega
        case rel => exact ⟨k + 1, by omega, by go_num, by rw [HE.out]; simp, by rw [HE.out]; exact H5.out.1, H5.out.2⟩
end Go.Proofs.Qxb6604204a
