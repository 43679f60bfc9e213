/- FOR the two laws on span: the contracts of backslashes, lowerHex, span, ZZSpan, ZZNewSpelling. -/
import Derived.Test.Qxb6001664aRows
import Derived.WalkKit
import Derived.ProofKit
import Derived.OpenShut
import Derived.ShutString
import Derived.WalkSpells
import Derived.WalkLawsBesides
import Derived.Deep.QuietTactic
import Derived.BigQuiet
import Derived.Lib.SlBytesRow
import Derived.Test.Qxb6001664aSpanPlain
namespace Go.Proofs.Qxb6001664a.SpanCalls
open Go.ChangeShapes Go.WideShapes Go.ChangeAt Go.RowKit
open Go.Proofs.Qxb6001664a.SpanPlain
set_option linter.unusedVariables false

/-- The bytes of a text, as a list. -/
abbrev L (s : ByteArray) : List UInt8 := s.data.toList
theorem L_len (s : ByteArray) : (L s).length = s.size := by simp [L]
theorem L_at (s : ByteArray) (i : Nat) (h : i < s.size) : (L s)[i]'(by rw [L_len]; exact h) = s[i] := by
  simp [L]; rfl

/-- Cell o + i of block b holds byte i of t. -/
def Text (w : World) (b o : Nat) (t : ByteArray) : Prop := ∀ i (h : i < t.size), w.cell? ⟨b, o + i, none⟩ = some (.int .u8 (t[i].toNat : Int))

set_option maxHeartbeats 400000 in
theorem backslashes (t : ByteArray) (b j cap : Nat) (hj : j ≤ t.size) (ht : t.size ≤ 1099511627776) (w : World) (hr : Text w b 0 t) :
    Calls Try.prog 46 #[.slice (some ⟨b, j, none⟩) (t.size - j) cap] w fun e w' => e = .returned (.int .i64 (bsN ((L t).drop j))) ∧ w = w' := by
  have HR : Hid (Text w b 0 t) := hr
  clear hr
  have hle := bsN_le ((L t).drop j)
  rw [List.length_drop, L_len] at hle
  have HA : Hid (∀ k, k < bsN ((L t).drop j) → ∀ h : j + k < t.size, t[j + k] = 92) := by
    intro k hk h
    have := bsN_at _ k hk
    rw [List.getElem?_drop, List.getElem?_eq_getElem (by rw [L_len]; exact h)] at this
    rw [← L_at t _ h]
    simpa using this
  have HE : Hid (∀ h : j + bsN ((L t).drop j) < t.size, t[j + bsN ((L t).drop j)] ≠ 92) := by
    intro h e
    apply bsN_end ((L t).drop j)
    rw [List.getElem?_drop, List.getElem?_eq_getElem (by rw [L_len]; exact h), L_at t _ h, e]
  generalize bsN ((L t).drop j) = N at *
  go_enter Try.func46, Try.ntmps46
  go_wp2
  go_loop [3] (fun i => ∃ k : Nat, k ≤ N ∧ i = .int .i64 k) (fun i => N - (intOf i).toNat)
  case atStart => exact ⟨0, by omega, rfl⟩
  case round =>
    obtain ⟨k, hk, rfl⟩ := hrel
    by_cases hlt : j + k < t.size
    · have hc : w.cell? ⟨b, j + k, none⟩ = some (.int .u8 (t[j + k].toNat : Int)) := by
        have := HR.out (j + k) hlt
        simpa using this
      have i1 : (k : Int) < ((t.size - j : Nat) : Int) := by omega
      by_cases hk2 : k < N
      · have hv : ((t[j + k].toNat : Int) == 92) = true := by rw [HA.out k hk2 hlt]; rfl
        go_wp2
        go_round
        case rel => exact ⟨k + 1, by omega, by go_num⟩
        case measure => simp [intOf]; omega
      · obtain rfl : k = N := by omega
        have hv : ((t[j + k].toNat : Int) == 92) = false := by
          have := HE.out hlt
          rw [beq_eq_false_iff_ne]
          intro h
          exact this (UInt8.toNat_inj.1 (by simpa using (by exact_mod_cast h : t[j + k].toNat = 92)))
        go_wp2
        go_ret
        exact ⟨rfl, rfl⟩
    · obtain rfl : k = N := by omega
      have hd : decide ((k : Int) < ((t.size - j : Nat) : Int)) = false := by simp; omega
      go_wp2
      go_ret
      exact ⟨rfl, rfl⟩

theorem ret_int {k : IntKind} {a b : Int} (h : a = b) : Ending.returned (.int k a) = .returned (.int k b) := by rw [h]

set_option maxHeartbeats 400000 in
theorem lowerHex (x : UInt8) (w : World) :
    Calls Try.prog 47 #[.int .u8 (x.toNat : Int)] w fun e w' => e = .returned (.int .u8 ((lowH x).toNat : Int)) ∧ w = w' := by
  have hx := x.toNat_lt
  by_cases h1 : 65 ≤ (x.toNat : Int)
  · by_cases h2 : (x.toNat : Int) ≤ 70
    · have e : ((lowH x).toNat : Int) = (x.toNat : Int) + 32 := by
        unfold lowH
        rw [if_pos ⟨by omega, by omega⟩]
        simp; omega
      have E : Hid (((lowH x).toNat : Int) = (x.toNat : Int) + 32) := e
      clear e
      go_enter Try.func47, Try.ntmps47
      go_wp2
      go_ret
      exact ⟨ret_int (by rw [E.out]; omega), rfl⟩
    · have e : lowH x = x := by
        unfold lowH
        rw [if_neg (by omega)]
      rw [e]
      go_enter Try.func47, Try.ntmps47
      go_wp2
      go_ret
      exact ⟨rfl, rfl⟩
  · have e : lowH x = x := by
      unfold lowH
      rw [if_neg (by omega)]
    rw [e]
    go_enter Try.func47, Try.ntmps47
    go_wp2
    go_ret
    exact ⟨rfl, rfl⟩

theorem beq_t {a b : UInt8} (h : a = b) : ((a.toNat : Int) == (b.toNat : Int)) = true := by rw [h]; simp
theorem beq_f {a b : UInt8} (h : ¬ a = b) : ((a.toNat : Int) == (b.toNat : Int)) = false := by
  rw [beq_eq_false_iff_ne]
  intro e
  exact h (UInt8.toNat_inj.1 (by exact_mod_cast e))
theorem beq92_t {a : UInt8} (h : a = 92) : ((a.toNat : Int) == 92) = true := by rw [h]; rfl
theorem beq92_f {a : UInt8} (h : ¬ a = 92) : ((a.toNat : Int) == 92) = false := beq_f (b := 92) h

def tup (r : Int × Int × Bool) : Value := .tuple #[.int .i64 r.1, .int .i64 r.2.1, .bool r.2.2]

theorem ret_tup {a b : Int} {c : Bool} {r : Int × Int × Bool} (h : r = (a, b, c)) : Ending.returned (.tuple #[.int .i64 a, .int .i64 b, .bool c]) = .returned (tup r) := by rw [h]; rfl

theorem more_eq (j n m : Nat) : decide (j + n = m) = ((j : Int) + (n : Int) == (m : Int)) := by
  rw [Bool.eq_iff_iff]
  simp
  omega

theorem Text.drewN {w : World} {b o : Nat} {t : ByteArray} (h : Text w b o t) (q : Nat) : Text (w.drewN q) b o t := fun i hi => by
  have := h i hi
  simpa using this

set_option maxRecDepth 100000 in
set_option maxHeartbeats 2000000 in
/-- A spelling that is no hex escape. -/
theorem span_false (S t : ByteArray) (sp b cap : Nat) (hS : S.size ≤ 1099511627776) (ht : t.size ≤ 1099511627776) (hcap : t.size ≤ cap) (w : World) (hr : Text w b 0 t) (h0 : w.cell? ⟨sp, 0, none⟩ = some (.string S)) (h1 : w.cell? ⟨sp, 1, none⟩ = some (.bool false)) :
    Calls Try.prog 38 #[.pointer (some ⟨sp, 0, none⟩), .slice (some ⟨b, 0, none⟩) t.size cap] w fun e w' => e = .returned (tup (spanAll false (L S) (L t))) ∧ ∃ q, w' = w.drewN q := by
  have HR : Hid (Text w b 0 t) := hr
  have HA : Hid (spanAll false (L S) (L t) = spanFrom false (L S) (L t) 0) := by simp [Hid, spanAll]
  clear hr
  go_enter Try.func38, Try.ntmps38
  go_wp2_with fail
  go_quiet (fail)
  go_wp2_with fail
  go_loop [8, 9] (fun vj vi => ∃ i j : Nat, i ≤ S.size ∧ j ≤ t.size ∧ vj = .int .i64 j ∧ vi = .int .i64 i ∧ Hid (spanFrom false ((L S).drop i) ((L t).drop j) j = spanFrom false (L S) (L t) 0)) (fun _ vi => S.size - (intOf vi).toNat)
  case atStart => exact ⟨0, 0, by omega, by omega, rfl, rfl, by simp [Hid]⟩
  case round =>
    obtain ⟨i, j, hi, hj, rfl, rfl, HF⟩ := hrel
    by_cases hlt : i < S.size
    case neg =>
      have E := at_done false (L S) (L t) i j (by rw [L_len]; omega)
      rw [HF.out] at E
      have EE : Hid (spanFrom false (L S) (L t) 0 = ((j : Int), (j : Int), false)) := E
      clear E HF
      go_wp2
      go_ret3
      exact ⟨ret_tup (HA.out.trans EE.out), nq, rfl⟩
    by_cases hjt : j < t.size
    case neg =>
      have E := at_stop false (L S) (L t) i j (by rw [L_len]; omega) (by rw [L_len]; omega)
      rw [HF.out] at E
      have EE : Hid (spanFrom false (L S) (L t) 0 = (-1, -1, true)) := E
      clear E HF
      have e1 : ((j : Int) == (t.size : Int)) = true := by simp; omega
      go_wp2
      go_ret3
      exact ⟨ret_tup (HA.out.trans EE.out), nq, rfl⟩
    have e1 : ((j : Int) == (t.size : Int)) = false := by simp; omega
    have hc : w.cell? ⟨b, j, none⟩ = some (.int .u8 (t[j].toNat : Int)) := by
      have := HR.out j hjt
      simpa using this
    have g1 := L_at S i hlt
    have g2 := L_at t j hjt
    by_cases b2 : t[j] = S[i]
    · have v2 := beq_t b2
      by_cases b1 : S[i] = 92
      · have v1 := beq92_t b1
        have hle := bsN_le ((L t).drop j)
        rw [List.length_drop, L_len] at hle
        by_cases hlast : i + 1 = S.size
        · have E := at_run_last false (L S) (L t) i j (by rw [L_len]; exact hlt) (by rw [L_len]; exact hjt) (by rw [g1]; exact b1) (by rw [g1, g2]; exact b2) (by rw [L_len]; exact hlast)
          rw [HF.out, L_len] at E
          have EE : Hid (spanFrom false (L S) (L t) 0 = ((j : Int) + 1, (j : Int) + (bsN ((L t).drop j) : Int), ((j : Int) + (bsN ((L t).drop j) : Int) == (t.size : Int)))) := by
            show _ = _
            rw [E, more_eq]
          have el : ((i : Int) == (S.size : Int) - 1) = true := by simp; omega
          clear E HF g1 g2 b1 b2
          have HB : Hid (∀ w, Text w b 0 t → Calls Try.prog 46 #[.slice (some ⟨b, j, none⟩) (t.size - j) (cap - j)] w fun e w' => e = .returned (.int .i64 (bsN ((L t).drop j))) ∧ w = w') := fun w hw => backslashes t b j _ hj ht w hw
          generalize bsN ((L t).drop j) = N at *
          go_wp2_with (go_at_call 46; refine (HB.out _ (HR.out.drewN _)).mono ?_; rintro e w' ⟨rfl, rfl⟩)
          go_ret3
          exact ⟨ret_tup (HA.out.trans EE.out), nq, rfl⟩
        · have E := at_run false (L S) (L t) i j (by rw [L_len]; exact hlt) (by rw [L_len]; exact hjt) (by rw [g1]; exact b1) (by rw [g1, g2]; exact b2) (by rw [L_len]; exact hlast)
          rw [HF.out] at E
          have EE : Hid (spanFrom false ((L S).drop (i + 1)) ((L t).drop (j + bsN ((L t).drop j))) (j + bsN ((L t).drop j)) = spanFrom false (L S) (L t) 0) := E.symm
          have el : ((i : Int) == (S.size : Int) - 1) = false := by simp; omega
          clear E HF g1 g2 b1 b2
          have HB : Hid (∀ w, Text w b 0 t → Calls Try.prog 46 #[.slice (some ⟨b, j, none⟩) (t.size - j) (cap - j)] w fun e w' => e = .returned (.int .i64 (bsN ((L t).drop j))) ∧ w = w') := fun w hw => backslashes t b j _ hj ht w hw
          generalize bsN ((L t).drop j) = N at *
          go_wp2_with (go_at_call 46; refine (HB.out _ (HR.out.drewN _)).mono ?_; rintro e w' ⟨rfl, rfl⟩)
          go_round
          case rel => exact ⟨i + 1, j + N, by omega, by omega, by go_num, by go_num, EE⟩
          case measure => simp [intOf]; omega
      · have v1 := beq92_f b1
        have E := at_one false (L S) (L t) i j (by rw [L_len]; exact hlt) (by rw [L_len]; exact hjt) (by rw [g1]; exact fun h => b1 h.1) (by rw [g1, g2]; exact Or.inl b2)
        rw [HF.out] at E
        have EE : Hid (spanFrom false ((L S).drop (i + 1)) ((L t).drop (j + 1)) (j + 1) = spanFrom false (L S) (L t) 0) := E.symm
        clear E HF g1 g2 b1 b2
        go_wp2
        go_round
        case rel => exact ⟨i + 1, j + 1, by omega, by omega, by go_num, by go_num, EE⟩
        case measure => simp [intOf]; omega
    · have v2 := beq_f b2
      have E := at_no false (L S) (L t) i j (by rw [L_len]; exact hlt) (by rw [L_len]; exact hjt) (by rw [g1, g2]; exact fun h => b2 h.2) (by rw [g1, g2]; simp [b2])
      rw [HF.out] at E
      have EE : Hid (spanFrom false (L S) (L t) 0 = (-1, -1, false)) := E
      clear E HF g1 g2 b2
      cases v1 : ((S[i].toNat : Int) == 92)
      all_goals
        go_wp2
        go_ret3
        exact ⟨ret_tup (HA.out.trans EE.out), nq, rfl⟩

theorem conv (W : World) (b cap n : Nat) (t : ByteArray) (hT : Text W b 0 t) (hn : n ≤ t.size) : (convert 42 9 (.slice (some ⟨b, 0, none⟩) n cap)).run Try.prog W = .ok (.string (t.extract 0 n)) W := by
  have := Lib.run_convert_window (P := Try.prog) W 42 5 9 Try.underlying42 Try.underlying5 Try.underlying9 b 0 t hT 0 n cap (by omega)
  simpa using this

set_option maxRecDepth 100000 in
set_option maxHeartbeats 2000000 in
/-- A hex escape that the text holds byte for byte. -/
theorem span_quick (S t : ByteArray) (sp b cap : Nat) (hS : S.size ≤ t.size) (ht : t.size ≤ 1099511627776) (hcap : t.size ≤ cap) (heq : t.extract 0 S.size = S) (w : World) (hr : Text w b 0 t) (h0 : w.cell? ⟨sp, 0, none⟩ = some (.string S)) (h1 : w.cell? ⟨sp, 1, none⟩ = some (.bool true)) :
    Calls Try.prog 38 #[.pointer (some ⟨sp, 0, none⟩), .slice (some ⟨b, 0, none⟩) t.size cap] w fun e w' => e = .returned (tup (S.size, S.size, false)) ∧ ∃ q, w' = w.drewN q := by
  have hk : ∀ q, (convert 42 9 (.slice (some ⟨b, 0, none⟩) S.size cap)).run Try.prog (w.drewN q) = .ok (.string S) (w.drewN q) := fun q => by
    rw [conv _ b cap S.size t (hr.drewN q) hS, heq]
  have i1 : (S.size : Int) ≤ (t.size : Int) := by omega
  clear hr heq
  go_enter Try.func38, Try.ntmps38
  go_wp2_with fail
  go_quiet (fail)
  go_wp2_with fail
  go_ret3
  exact ⟨rfl, nq, rfl⟩

theorem spanAll_no {S t : ByteArray} (hne : ¬ (S.size ≤ t.size ∧ t.extract 0 S.size = S)) : spanAll true (L S) (L t) = spanFrom true (L S) (L t) 0 := by
  unfold spanAll
  rw [if_neg]
  rintro ⟨_, h1, h2⟩
  rw [L_len] at h1 h2
  rw [L_len] at h1
  apply hne
  refine ⟨h1, ?_⟩
  apply ByteArray.ext
  apply Array.toList_inj.1
  rw [Lib.extract_data]
  simpa using h2

set_option maxRecDepth 100000 in
set_option maxHeartbeats 4000000 in
/-- A hex escape that the text does not hold byte for byte. -/
theorem span_slow (S t X : ByteArray) (sp b cap : Nat) (hS : S.size ≤ 1099511627776) (ht : t.size ≤ 1099511627776) (hcap : t.size ≤ cap) (hle : S.size ≤ t.size) (hX : t.extract 0 S.size = X) (hne : (X.toList == S.toList) = false) (w : World) (hr : Text w b 0 t) (h0 : w.cell? ⟨sp, 0, none⟩ = some (.string S)) (h1 : w.cell? ⟨sp, 1, none⟩ = some (.bool true))
    (ha : spanAll true (L S) (L t) = spanFrom true (L S) (L t) 0) :
    Calls Try.prog 38 #[.pointer (some ⟨sp, 0, none⟩), .slice (some ⟨b, 0, none⟩) t.size cap] w fun e w' => e = .returned (tup (spanAll true (L S) (L t))) ∧ ∃ q, w' = w.drewN q := by
  have hk : ∀ q, (convert 42 9 (.slice (some ⟨b, 0, none⟩) S.size cap)).run Try.prog (w.drewN q) = .ok (.string X) (w.drewN q) := fun q => by
    rw [conv _ b cap S.size t (hr.drewN q) hle, hX]
  have i1 : (S.size : Int) ≤ (t.size : Int) := by omega
  have HR : Hid (Text w b 0 t) := hr
  have HA : Hid (spanAll true (L S) (L t) = spanFrom true (L S) (L t) 0) := ha
  clear hr ha hX
  go_enter Try.func38, Try.ntmps38
  go_wp2_with fail
  go_quiet (fail)
  go_wp2_with fail
  clear hk i1
  go_loop [8, 9] (fun vj vi => ∃ i j : Nat, i ≤ S.size ∧ j ≤ t.size ∧ vj = .int .i64 j ∧ vi = .int .i64 i ∧ Hid (spanFrom true ((L S).drop i) ((L t).drop j) j = spanFrom true (L S) (L t) 0)) (fun _ vi => S.size - (intOf vi).toNat)
  case atStart => exact ⟨0, 0, by omega, by omega, rfl, rfl, by simp [Hid]⟩
  case round =>
    obtain ⟨i, j, hi, hj, rfl, rfl, HF⟩ := hrel
    by_cases hlt : i < S.size
    case neg =>
      have E := at_done true (L S) (L t) i j (by rw [L_len]; omega)
      rw [HF.out] at E
      have EE : Hid (spanFrom true (L S) (L t) 0 = ((j : Int), (j : Int), false)) := E
      clear E HF
      go_wp2
      go_ret3
      exact ⟨ret_tup (HA.out.trans EE.out), nq, rfl⟩
    by_cases hjt : j < t.size
    case neg =>
      have E := at_stop true (L S) (L t) i j (by rw [L_len]; omega) (by rw [L_len]; omega)
      rw [HF.out] at E
      have EE : Hid (spanFrom true (L S) (L t) 0 = (-1, -1, true)) := E
      clear E HF
      have e1 : ((j : Int) == (t.size : Int)) = true := by simp; omega
      go_wp2
      go_ret3
      exact ⟨ret_tup (HA.out.trans EE.out), nq, rfl⟩
    have e1 : ((j : Int) == (t.size : Int)) = false := by simp; omega
    have hc : w.cell? ⟨b, j, none⟩ = some (.int .u8 (t[j].toNat : Int)) := by
      have := HR.out j hjt
      simpa using this
    have g1 := L_at S i hlt
    have g2 := L_at t j hjt
    by_cases b2 : t[j] = S[i]
    · have v2 := beq_t b2
      by_cases b1 : S[i] = 92
      · have v1 := beq92_t b1
        have hle := bsN_le ((L t).drop j)
        rw [List.length_drop, L_len] at hle
        by_cases hlast : i + 1 = S.size
        · have E := at_run_last true (L S) (L t) i j (by rw [L_len]; exact hlt) (by rw [L_len]; exact hjt) (by rw [g1]; exact b1) (by rw [g1, g2]; exact b2) (by rw [L_len]; exact hlast)
          rw [HF.out, L_len] at E
          have EE : Hid (spanFrom true (L S) (L t) 0 = ((j : Int) + 1, (j : Int) + (bsN ((L t).drop j) : Int), ((j : Int) + (bsN ((L t).drop j) : Int) == (t.size : Int)))) := by
            show _ = _
            rw [E, more_eq]
          have el : ((i : Int) == (S.size : Int) - 1) = true := by simp; omega
          clear E HF g1 g2 b1 b2
          have HB : Hid (∀ w, Text w b 0 t → Calls Try.prog 46 #[.slice (some ⟨b, j, none⟩) (t.size - j) (cap - j)] w fun e w' => e = .returned (.int .i64 (bsN ((L t).drop j))) ∧ w = w') := fun w hw => backslashes t b j _ hj ht w hw
          generalize bsN ((L t).drop j) = N at *
          go_wp2_with (go_at_call 46; refine (HB.out _ (HR.out.drewN _)).mono ?_; rintro e w' ⟨rfl, rfl⟩)
          go_ret3
          exact ⟨ret_tup (HA.out.trans EE.out), nq, rfl⟩
        · have E := at_run true (L S) (L t) i j (by rw [L_len]; exact hlt) (by rw [L_len]; exact hjt) (by rw [g1]; exact b1) (by rw [g1, g2]; exact b2) (by rw [L_len]; exact hlast)
          rw [HF.out] at E
          have EE : Hid (spanFrom true ((L S).drop (i + 1)) ((L t).drop (j + bsN ((L t).drop j))) (j + bsN ((L t).drop j)) = spanFrom true (L S) (L t) 0) := E.symm
          have el : ((i : Int) == (S.size : Int) - 1) = false := by simp; omega
          clear E HF g1 g2 b1 b2
          have HB : Hid (∀ w, Text w b 0 t → Calls Try.prog 46 #[.slice (some ⟨b, j, none⟩) (t.size - j) (cap - j)] w fun e w' => e = .returned (.int .i64 (bsN ((L t).drop j))) ∧ w = w') := fun w hw => backslashes t b j _ hj ht w hw
          generalize bsN ((L t).drop j) = N at *
          go_wp2_with (go_at_call 46; refine (HB.out _ (HR.out.drewN _)).mono ?_; rintro e w' ⟨rfl, rfl⟩)
          go_round
          case rel => exact ⟨i + 1, j + N, by omega, by omega, by go_num, by go_num, EE⟩
          case measure => simp [intOf]; omega
      · have v1 := beq92_f b1
        have E := at_one true (L S) (L t) i j (by rw [L_len]; exact hlt) (by rw [L_len]; exact hjt) (by rw [g1]; exact fun h => b1 h.1) (by rw [g1, g2]; exact Or.inl b2)
        rw [HF.out] at E
        have EE : Hid (spanFrom true ((L S).drop (i + 1)) ((L t).drop (j + 1)) (j + 1) = spanFrom true (L S) (L t) 0) := E.symm
        clear E HF g1 g2 b1 b2
        go_wp2
        go_round
        case rel => exact ⟨i + 1, j + 1, by omega, by omega, by go_num, by go_num, EE⟩
        case measure => simp [intOf]; omega
    · have v2 := beq_f b2
      by_cases b3 : lowH t[j] = S[i]
      · have v3 := beq_t b3
        have E := at_one true (L S) (L t) i j (by rw [L_len]; exact hlt) (by rw [L_len]; exact hjt) (by rw [g1, g2]; exact fun h => b2 h.2) (by rw [g1, g2]; exact Or.inr ⟨rfl, b3⟩)
        rw [HF.out] at E
        have EE : Hid (spanFrom true ((L S).drop (i + 1)) ((L t).drop (j + 1)) (j + 1) = spanFrom true (L S) (L t) 0) := E.symm
        clear E HF g1 g2 b2 b3
        cases v1 : ((S[i].toNat : Int) == 92)
        all_goals
          go_wp2_with (go_at_call 47; refine (lowerHex _ _).mono ?_; rintro e w' ⟨rfl, rfl⟩)
          go_round
          case rel => exact ⟨i + 1, j + 1, by omega, by omega, by go_num, by go_num, EE⟩
          case measure => simp [intOf]; omega
      · have v3 := beq_f b3
        have E := at_no true (L S) (L t) i j (by rw [L_len]; exact hlt) (by rw [L_len]; exact hjt) (by rw [g1, g2]; exact fun h => b2 h.2) (by rw [g1, g2]; simp [b2, b3])
        rw [HF.out] at E
        have EE : Hid (spanFrom true (L S) (L t) 0 = (-1, -1, false)) := E
        clear E HF g1 g2 b2 b3
        cases v1 : ((S[i].toNat : Int) == 92)
        all_goals
          go_wp2_with (go_at_call 47; refine (lowerHex _ _).mono ?_; rintro e w' ⟨rfl, rfl⟩)
          go_ret3
          exact ⟨ret_tup (HA.out.trans EE.out), nq, rfl⟩

/-- What span computes, in one word, for both laws. -/
def Spans (w : World) (S t : ByteArray) (sp b cap : Nat) (hex : Bool) : Prop :=
  Calls Try.prog 38 #[.pointer (some ⟨sp, 0, none⟩), .slice (some ⟨b, 0, none⟩) t.size cap] w fun e w' => e = .returned (tup (spanAll hex (L S) (L t))) ∧ ∃ q, w' = w.drewN q

theorem spans_false (S t : ByteArray) (sp b cap : Nat) (hS : S.size ≤ 1099511627776) (ht : t.size ≤ 1099511627776) (hcap : t.size ≤ cap) (w : World) (hr : Text w b 0 t) (h0 : w.cell? ⟨sp, 0, none⟩ = some (.string S)) (h1 : w.cell? ⟨sp, 1, none⟩ = some (.bool false)) : Spans w S t sp b cap false :=
  span_false S t sp b cap hS ht hcap w hr h0 h1

theorem spans_true (S t : ByteArray) (sp b cap : Nat) (hS : S.size ≤ t.size) (ht : t.size ≤ 1099511627776) (hcap : t.size ≤ cap) (w : World) (hr : Text w b 0 t) (h0 : w.cell? ⟨sp, 0, none⟩ = some (.string S)) (h1 : w.cell? ⟨sp, 1, none⟩ = some (.bool true)) : Spans w S t sp b cap true := by
  by_cases heq : t.extract 0 S.size = S
  · have e : spanAll true (L S) (L t) = ((S.size : Int), (S.size : Int), false) := by
      unfold spanAll
      rw [if_pos]
      · rw [L_len]
      · refine ⟨rfl, by rw [L_len, L_len]; exact hS, ?_⟩
        rw [L_len]
        have := congrArg (fun x : ByteArray => x.data.toList) heq
        simpa [Lib.extract_data] using this
    unfold Spans
    rw [e]
    exact span_quick S t sp b cap hS ht hcap heq w hr h0 h1
  · refine span_slow S t _ sp b cap (by omega) ht hcap hS rfl ?_ w hr h0 h1 (spanAll_no (fun h => heq h.2))
    rw [beq_eq_false_iff_ne]
    intro h
    apply heq
    rw [ByteArray.toList_eq, ByteArray.toList_eq] at h
    apply ByteArray.ext
    exact Array.toList_inj.1 h

set_option maxRecDepth 100000 in
set_option maxHeartbeats 1000000 in
theorem zzspan {S t : ByteArray} {sp b cap : Nat} {hex : Bool} {w : World} (h : Spans w S t sp b cap hex) :
    Calls Try.prog 29 #[.pointer (some ⟨sp, 0, none⟩), .slice (some ⟨b, 0, none⟩) t.size cap] w fun e w' => e = .returned (tup (spanAll hex (L S) (L t))) ∧ ∃ q, w' = w.drewN q := by
  go_enter Try.func29, Try.ntmps29
  go_wp2_with (go_at_call 38; refine Calls.mono h ?_)
  rintro e w' ⟨rfl, q, rfl⟩
  unfold tup
  go_wp2
  go_ret3
  exact ⟨rfl, q, rfl⟩

set_option maxHeartbeats 400000 in
theorem newSpelling (S : ByteArray) (hex : Bool) (w : World) :
    Calls Try.prog 30 #[.string S, .bool hex] w fun e w' => e = .returned (.pointer (some ⟨w.heap.size, 0, none⟩)) ∧ w'.cell? ⟨w.heap.size, 0, none⟩ = some (.string S) ∧ w'.cell? ⟨w.heap.size, 1, none⟩ = some (.bool hex) ∧ w'.heap.size = w.heap.size + 1 ∧ Below w.heap.size w w' := by
  go_enter Try.func30, Try.ntmps30
  go_wp2
  go_ret
  exact ⟨rfl, by simp, by simp, by simp, (Below.refl _ _).alloc (Nat.le_refl _) _⟩

end Go.Proofs.Qxb6001664a.SpanCalls
