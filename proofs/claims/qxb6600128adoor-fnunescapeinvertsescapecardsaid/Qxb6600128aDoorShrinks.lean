import Derived.Test.Qxb6600128aDoorUnesc
namespace Go.Proofs.Qxb6600128aDoor
open Go.ChangeShapes Go.WideShapes Go.ChangeAt Go.RowKit
set_option linter.unusedVariables false

/-- How many backslashes a text holds. -/
def cnt : List UInt8 → Nat
  | [] => 0
  | c :: cs => (if c = 92 then 1 else 0) + cnt cs

theorem cnt_snoc (l : List UInt8) (c : UInt8) : cnt (l ++ [c]) = cnt l + (if c = 92 then 1 else 0) := by
  induction l with
  | nil => simp [cnt]
  | cons a l ih => rw [List.cons_append, cnt, cnt, ih]; omega
theorem cnt_le (l : List UInt8) : cnt l ≤ l.length := by
  induction l with
  | nil => simp [cnt]
  | cons a l ih => rw [cnt, List.length_cons]; split <;> omega

/-- The output is shorter by three bytes for each escape decoded, at most one a backslash; it holds no more backslashes; without backslashes it is the input. -/
theorem shrinks : ∀ l : List UInt8, (∃ k, l.length = (unesc l).length + 3 * k ∧ k ≤ cnt l) ∧ cnt (unesc l) ≤ cnt l ∧ (cnt l = 0 → unesc l = l)
  | [] => ⟨⟨0, rfl, Nat.le_refl _⟩, Nat.le_refl _, fun _ => rfl⟩
  | [c] => ⟨⟨0, rfl, Nat.zero_le _⟩, Nat.le_refl _, fun _ => rfl⟩
  | [c, a] => ⟨⟨0, rfl, Nat.zero_le _⟩, Nat.le_refl _, fun _ => rfl⟩
  | [c, a, b] => ⟨⟨0, rfl, Nat.zero_le _⟩, Nat.le_refl _, fun _ => rfl⟩
  | c :: a :: b :: d :: rest => by
    by_cases h : c = 92 ∧ (pu 0 [a, b, d]).2 = 0
    · obtain ⟨⟨k, h1, h2⟩, h3, h4⟩ := shrinks rest
      rw [unesc_esc h.1 h.2]
      have e : cnt (c :: a :: b :: d :: rest) = 1 + ((if a = 92 then 1 else 0) + ((if b = 92 then 1 else 0) + ((if d = 92 then 1 else 0) + cnt rest))) := by
        simp only [cnt, if_pos h.1]
      refine ⟨⟨k + 1, ?_, ?_⟩, ?_, fun h0 => ?_⟩
      · simp only [List.length_cons]; omega
      · rw [e]; omega
      · rw [e, cnt]
        split <;> omega
      · rw [e] at h0; omega
    · obtain ⟨⟨k, h1, h2⟩, h3, h4⟩ := shrinks (a :: b :: d :: rest)
      rw [unesc_not h]
      refine ⟨⟨k, ?_, ?_⟩, ?_, fun h0 => ?_⟩
      · simp only [List.length_cons] at h1 ⊢; omega
      · rw [cnt]; omega
      · rw [cnt, cnt]; omega
      · rw [cnt] at h0
        rw [h4 (by omega)]

theorem take_L {s : ByteArray} {i : Nat} (h : i < s.size) : (L s).take (i + 1) = (L s).take i ++ [s[i]] := by
  rw [List.take_succ_eq_append_getElem (by rw [L_len]; exact h), L_at s i h]

set_option maxHeartbeats 400000 in
theorem countB (s : ByteArray) (hs : s.size ≤ 4194304) (w : World) :
    Calls Tryd.prog 20 #[.string s, .int .u8 92] w fun e w' => e = .returned (.int .i64 (cnt (L s))) ∧ w = w' := by
  go_enter Tryd.func20, Tryd.ntmps20
  go_wp2
  go_loop [5, 6] (fun vn vi => ∃ i n : Nat, i ≤ s.size ∧ n ≤ i ∧ Hid (cnt ((L s).take i) = n) ∧ vn = .int .i64 n ∧ vi = .int .i64 i) (fun _ vi => s.size - (intOf vi).toNat)
  case atStart => exact ⟨0, 0, by omega, by omega, by simp [Hid, cnt], rfl, rfl⟩
  case round =>
    obtain ⟨i, n, hi, hn, HN, rfl, rfl⟩ := hrel
    by_cases hlt : i < s.size
    · have hs1 := cnt_snoc ((L s).take i) s[i]
      rw [← take_L hlt, HN.out] at hs1
      by_cases c1 : s[i] = 92
      · have v1 := beq92_t c1
        rw [if_pos c1] at hs1
        have HE : Hid (cnt ((L s).take (i + 1)) = n + 1) := hs1
        clear hs1 c1 HN
        go_wp2
        go_round
        case rel => exact ⟨i + 1, n + 1, by omega, by omega, HE, by go_num, by go_num⟩
        case measure => simp [intOf]; omega
      · have v1 := beq92_f c1
        rw [if_neg c1] at hs1
        have HE : Hid (cnt ((L s).take (i + 1)) = n) := hs1
        clear hs1 c1 HN
        go_wp2
        go_round
        case rel => exact ⟨i + 1, n, by omega, by omega, HE, rfl, by go_num⟩
        case measure => simp [intOf]; omega
    · have HE : Hid (cnt (L s) = n) := by
        have := HN.out
        rw [List.take_of_length_le (by rw [L_len]; omega)] at this
        exact this
      clear HN
      go_wp2
      go_ret
      exact ⟨by rw [HE.out]; rfl, rfl⟩

set_option maxHeartbeats 400000 in
theorem zzunescape (s : ByteArray) (hs : s.size ≤ 4194304) (w : World) (e2 e3 : Value) (hs2 : Sent e2) (hs3 : Sent e3) (hc2 : w.cell? ⟨2, 0, none⟩ = some e2) (hc3 : w.cell? ⟨3, 0, none⟩ = some e3) :
    Calls Tryd.prog 18 #[.string s] w fun e w' => e = .returned (.string ⟨(unesc (L s)).toArray⟩) ∧ Below w.heap.size w w' := by
  have H : Hid (Calls Tryd.prog 24 #[.string s] w fun e w' => e = .returned (.string ⟨(unesc (L s)).toArray⟩) ∧ Below w.heap.size w w') := unescape s hs w e2 e3 hs2 hs3 hc2 hc3
  clear hs2 hs3 hc2 hc3
  go_enter Tryd.func18, Tryd.ntmps18
  go_wp2_with (go_at_call 24; refine H.out.mono ?_)
  rintro e w' ⟨rfl, hb⟩
  go_wp2
  go_ret
  exact ⟨rfl, hb⟩

set_option maxHeartbeats 400000 in
theorem zzbytes19 (s : ByteArray) (w : World) (h2 : s.size ≤ maxLen) :
    Calls Tryd.prog 19 #[.string s] w fun e w' => e = .returned (.bool (decide (s.size ≤ 1048576))) ∧ w = w' := by
  unfold maxLen at h2
  by_cases h : s.size ≤ 1048576
  · go_enter Tryd.func19, Tryd.ntmps19
    go_wp2
    go_ret
    exact ⟨by simp [h], rfl⟩
  · go_enter Tryd.func19, Tryd.ntmps19
    go_wp2
    go_ret
    exact ⟨by simp [h], rfl⟩

theorem mk_size (xs : List UInt8) : (ByteArray.mk xs.toArray).size = xs.length := by
  show xs.toArray.size = _
  simp

set_option maxHeartbeats 1000000 in
theorem walk7 (s : ByteArray) (w0 : s.size ≤ maxLen) (w : World) (e2 e3 : Value) (hs2 : Sent e2) (hs3 : Sent e3) (hc2 : w.cell? ⟨2, 0, none⟩ = some e2) (hc3 : w.cell? ⟨3, 0, none⟩ = some e3) :
    Calls Tryd.prog 7 #[.string s] w fun e w' => e = .returned (.bool true) ∧ Below w.heap.size w w' := by
  have HZ : Hid (∀ w, Calls Tryd.prog 19 #[.string s] w fun e w' => e = .returned (.bool (decide (s.size ≤ 1048576))) ∧ w = w') := fun w => zzbytes19 s w w0
  unfold maxLen at w0
  by_cases hs : s.size ≤ 1048576
  case neg =>
    clear hs2 hs3 hc2 hc3
    go_enter Tryd.func7, Tryd.ntmps7
    go_wp2_with (go_at_call 19; refine (HZ.out _).mono ?_; rintro e w' ⟨rfl, rfl⟩)
    go_ret
    exact ⟨rfl, Below.refl _ _⟩
  have H : Hid (Calls Tryd.prog 18 #[.string s] w fun e w' => e = .returned (.string ⟨(unesc (L s)).toArray⟩) ∧ Below w.heap.size w w') := zzunescape s (by omega) w e2 e3 hs2 hs3 hc2 hc3
  clear hs2 hs3 hc2 hc3
  obtain ⟨⟨k, q1, q2⟩, q3, q4⟩ := shrinks (L s)
  rw [L_len] at q1
  have HQ4 : Hid (cnt (L s) = 0 → unesc (L s) = L s) := q4
  have HO : Hid (∀ w, Calls Tryd.prog 20 #[.string ⟨(unesc (L s)).toArray⟩, .int .u8 92] w fun e w' => e = .returned (.int .i64 (cnt (unesc (L s)))) ∧ w = w') := fun w => countB ⟨(unesc (L s)).toArray⟩ (by rw [mk_size]; omega) w
  have HI : Hid (∀ w, Calls Tryd.prog 20 #[.string s, .int .u8 92] w fun e w' => e = .returned (.int .i64 (cnt (L s))) ∧ w = w') := fun w => countB s (by omega) w
  have hb1 := cnt_le (L s)
  rw [L_len] at hb1
  have hsz : (ByteArray.mk (unesc (L s)).toArray).size = (unesc (L s)).length := mk_size _
  generalize hout : ByteArray.mk (unesc (L s)).toArray = out at *
  have HOUT : Hid (ByteArray.mk (unesc (L s)).toArray = out) := hout
  generalize cnt (unesc (L s)) = m at *
  have hs3 : s.size = out.size + 3 * k := by omega
  have HS3 : Hid (s.size = out.size + 3 * k) := hs3
  have hle1 : out.size ≤ s.size := by omega
  have hmod : ((s.size : Int) - (out.size : Int)) % 3 = 0 := by omega
  have hmodb : (((s.size : Int) - (out.size : Int)) % 3 != 0) = false := by simp [hmod]
  have hdiv : ((s.size : Int) - (out.size : Int)) / 3 ≤ (cnt (L s) : Int) := by omega
  have HNIL : Hid (cnt (L s) = 0 → out = s) := by
    intro h
    rw [← hout, HQ4.out h]
  generalize cnt (L s) = n at *
  clear hout hs3 q1 q4 hsz hmod
  clear HQ4
  by_cases hn : n = 0
  · have hos := HNIL.out hn
    have hnb : ((n : Int) == 0) = true := by simp; omega
    subst hos
    clear HNIL HS3 HOUT hn hle1
    go_enter Tryd.func7, Tryd.ntmps7
    go_wp2_with fail
    refine (HZ.out _).mono ?_
    rintro e w' ⟨rfl, rfl⟩
    go_wp2_with fail
    refine H.out.mono ?_
    rintro e w1 ⟨rfl, hb⟩
    go_wp2_with fail
    refine (HI.out _).mono ?_
    rintro e w' ⟨rfl, rfl⟩
    go_wp2_with fail
    refine (HO.out _).mono ?_
    rintro e w' ⟨rfl, rfl⟩
    go_wp2
    go_ret
    exact ⟨rfl, hb⟩
  · have hnb : ((n : Int) == 0) = false := by simp; omega
    clear HNIL HS3
    go_enter Tryd.func7, Tryd.ntmps7
    go_wp2_with fail
    refine (HZ.out _).mono ?_
    rintro e w' ⟨rfl, rfl⟩
    go_wp2_with fail
    refine H.out.mono ?_
    rintro e w1 ⟨rfl, hb⟩
    go_wp2_with fail
    refine (HI.out _).mono ?_
    rintro e w' ⟨rfl, rfl⟩
    go_wp2_with fail
    refine (HO.out _).mono ?_
    rintro e w' ⟨rfl, rfl⟩
    go_wp2
    go_ret
    exact ⟨rfl, hb⟩
end Go.Proofs.Qxb6600128aDoor
