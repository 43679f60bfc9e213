import Derived.Test.Qxb6600128aDoorBuild
import Derived.Lib.ConvBytes
import Derived.Laws.BitsAllLaws
import Derived.Deep.QuietTactic
import Derived.BigQuiet
namespace Go.Proofs.Qxb6600128aDoor
open Go.ChangeShapes Go.WideShapes Go.ChangeAt Go.RowKit
set_option linter.unusedVariables false

/-- What ParseUint(s, 8, 8) comes to: the number; 0: no error, 1: out of range, 2: no number. -/
def pu (n : Nat) : List UInt8 → Nat × Nat
  | [] => (n, 0)
  | c :: cs => if 48 ≤ c.toNat ∧ c.toNat ≤ 55 then (if 255 < n * 8 + (c.toNat - 48) then (255, 1) else pu (n * 8 + (c.toNat - 48)) cs) else (0, 2)

def errOf (code : Nat) : Value := if code = 0 then .nilIface else .iface 66 (.int .i64 code)

abbrev L (s : ByteArray) : List UInt8 := s.data.toList
theorem L_len (s : ByteArray) : (L s).length = s.size := by simp [L]
theorem L_at (s : ByteArray) (i : Nat) (h : i < s.size) : (L s)[i]'(by rw [L_len]; exact h) = s[i] := by
  simp [L]; rfl

theorem conv_bytes (s : ByteArray) (w : World) :
    ∃ w1 cap, (convert 9 26 (.string s)).run Tryd.prog w = .ok (.slice (some ⟨w.heap.size, 0, none⟩) s.size cap) w1 ∧ (∀ i (h : i < s.size), w1.cell? ⟨w.heap.size, i, none⟩ = some (.int .u8 (s[i].toNat : Int))) ∧ Below w.heap.size w w1 := by
  refine ⟨Lib.bytesWorld w 5 s, grownCap w s.size 0 5, ?_, ?_, ?_⟩
  · rw [Lib.run_convert_string_bytes w 9 26 5 s Tryd.underlying9 Tryd.underlying26 Tryd.underlying5]
  · intro i h
    rw [Lib.bytesWorld_cell w 5 s i h]
    have : s.data.toList.getD i 0 = s[i] := by
      rw [List.getD, List.getElem?_eq_getElem (by simpa using h)]
      exact L_at s i h
    rw [this]
  · exact ⟨rfl, rfl, rfl, by rw [Lib.bytesWorld_size]; omega, fun k hk => Lib.bytesWorld_at_old w 5 s k hk⟩

theorem ret_pu {s : ByteArray} {v : Int} {e : Value} {n code : Nat} (h : pu 0 (L s) = (n, code)) (hv : Value.tuple #[.int .u64 v, e] = .tuple #[.int .u64 (n : Int), errOf code]) : Ending.returned (.tuple #[.int .u64 v, e]) = .returned (.tuple #[.int .u64 ((pu 0 (L s)).1 : Nat), errOf (pu 0 (L s)).2]) := by
  rw [h, hv]

theorem drop_L {s : ByteArray} {k : Nat} (h : k < s.size) : (L s).drop k = s[k] :: (L s).drop (k + 1) := by
  rw [List.drop_eq_getElem_cons (by rw [L_len]; exact h), L_at s k h]

theorem pu_range {s : ByteArray} {k n : Nat} (h : k < s.size) (ho : 48 ≤ s[k].toNat ∧ s[k].toNat ≤ 55) (hr : 255 < n * 8 + (s[k].toNat - 48)) (hp : pu n ((L s).drop k) = pu 0 (L s)) : pu 0 (L s) = (255, 1) := by
  rw [← hp, drop_L h, pu, if_pos ho, if_pos hr]
theorem pu_next {s : ByteArray} {k n : Nat} (h : k < s.size) (ho : 48 ≤ s[k].toNat ∧ s[k].toNat ≤ 55) (hr : ¬ 255 < n * 8 + (s[k].toNat - 48)) (hp : pu n ((L s).drop k) = pu 0 (L s)) : pu (n * 8 + (s[k].toNat - 48)) ((L s).drop (k + 1)) = pu 0 (L s) := by
  rw [← hp, drop_L h, pu, if_pos ho, if_neg hr]
theorem pu_syn {s : ByteArray} {k n : Nat} (h : k < s.size) (ho : ¬ (48 ≤ s[k].toNat ∧ s[k].toNat ≤ 55)) (hp : pu n ((L s).drop k) = pu 0 (L s)) : pu 0 (L s) = (0, 2) := by
  rw [← hp, drop_L h, pu, if_neg ho]

/-- lower: a letter in lower case, by one bit. -/
def lw (x : Int) : Int := bits .or .u8 x 32
theorem lw_bd (x : Int) : 0 ≤ lw x ∧ lw x ≤ 255 := by
  unfold lw bits
  rw [IntKind.wrap_u8']
  omega

set_option maxHeartbeats 400000 in
theorem lower (x : Int) (w : World) : Calls Tryd.prog 36 #[.int .u8 x] w fun e w' => e = .returned (.int .u8 (lw x)) ∧ w = w' := by
  go_enter Tryd.func36, Tryd.ntmps36
  go_wp2
  go_ret
  exact ⟨rfl, rfl⟩

set_option maxHeartbeats 1000000 in
set_option maxRecDepth 100000 in
theorem parseIn (s : ByteArray) (h0 : 0 < s.size) (h3 : s.size ≤ 3) (w : World) :
    Calls Tryd.prog 32 #[.string s, .int .i64 8, .int .i64 8] w fun e w' => e = .returned (.tuple #[.int .u64 ((pu 0 (L s)).1 : Nat), errOf (pu 0 (L s)).2]) ∧ Below w.heap.size w w' := by
  obtain ⟨w1, cap, hrun, hcell, hb⟩ := conv_bytes s w
  have HC : Hid (∀ i (h : i < s.size), w1.cell? ⟨w.heap.size, i, none⟩ = some (.int .u8 (s[i].toNat : Int))) := hcell
  clear hcell
  have hne : s.toList.isEmpty = false := by
    rw [ByteArray.toList_eq, List.isEmpty_eq_false_iff]
    intro h
    have h2 : s.data.toList.length = s.size := by simp
    rw [h, List.length_nil] at h2
    omega
  go_enter Tryd.func32, Tryd.ntmps32
  go_wp2_with fail
  go_loop [12, 13, 101] (fun vu vn vk => ∃ k n : Nat, k ≤ s.size ∧ n ≤ 255 ∧ vu = .bool false ∧ vn = .int .u64 n ∧ vk = .int .i64 k ∧ Hid (pu n ((L s).drop k) = pu 0 (L s))) (fun _ _ vk => s.size - (intOf vk).toNat)
  case atStart => exact ⟨0, 0, by omega, by omega, rfl, rfl, rfl, by simp [Hid]⟩
  case round =>
    obtain ⟨k, n, hk, hn, rfl, rfl, rfl, HP⟩ := hrel
    have hcut : decide ((2305843009213693952 : Int) ≤ (n : Int)) = false := decide_eq_false (by omega)
    by_cases hlt : k < s.size
    · have hc := HC.out k hlt
      have hx := s[k].toNat_lt
      by_cases ho : 48 ≤ s[k].toNat ∧ s[k].toNat ≤ 55
      · by_cases hr : 255 < n * 8 + (s[k].toNat - 48)
        · have HE : Hid (pu 0 (L s) = (255, 1)) := (pu_range hlt ho hr HP.out)
          have i1 : (48 : Int) ≤ (s[k].toNat : Int) := by omega
          have i2 : (s[k].toNat : Int) ≤ 55 := by omega
          have i3 : (255 : Int) < (n : Int) * 8 + ((s[k].toNat : Int) - 48) := by omega
          clear HP ho hr hx
          generalize (s[k].toNat : Int) = x at *
          clear HC
          go_wp2
          go_ret2
          exact ⟨ret_pu HE.out rfl, hb⟩
        · have HE : Hid (pu (n * 8 + (s[k].toNat - 48)) ((L s).drop (k + 1)) = pu 0 (L s)) := pu_next hlt ho hr HP.out
          have i1 : (48 : Int) ≤ (s[k].toNat : Int) := by omega
          have i2 : (s[k].toNat : Int) ≤ 55 := by omega
          have i3 : (n : Int) * 8 + ((s[k].toNat : Int) - 48) ≤ 255 := by omega
          have HM : Hid (((n * 8 + (s[k].toNat - 48) : Nat) : Int) = (n : Int) * 8 + ((s[k].toNat : Int) - 48)) := by show _ = _; omega
          generalize hM : n * 8 + (s[k].toNat - 48) = m at *
          have hm : m ≤ 255 := by omega
          clear HP ho hr hx hM
          generalize (s[k].toNat : Int) = x at *
          clear HC
          go_wp2
          go_round
          case rel => exact ⟨k + 1, m, by omega, hm, rfl, by rw [HM.out], by go_num, HE⟩
          case measure => simp [intOf]; omega
      · have HE : Hid (pu 0 (L s) = (0, 2)) := pu_syn hlt ho HP.out
        have hx0 : (0 : Int) ≤ (s[k].toNat : Int) := by omega
        have hx1 : (s[k].toNat : Int) ≤ 255 := by omega
        have hor : (s[k].toNat : Int) < 48 ∨ (55 < (s[k].toNat : Int) ∧ (s[k].toNat : Int) ≤ 57) ∨ 57 < (s[k].toNat : Int) := by omega
        clear HP ho hx
        generalize (s[k].toNat : Int) = x at *
        clear HC
        obtain ⟨l0, l1⟩ := lw_bd x
        rcases hor with hor | ⟨hor, hor'⟩ | hor
        · by_cases l2 : 97 ≤ lw x
          · by_cases l3 : lw x ≤ 122
            all_goals
              go_wp2_with (go_at_call 36; refine (lower _ _).mono ?_; rintro e w' ⟨rfl, rfl⟩)
              all_goals (go_ret2; exact ⟨ret_pu HE.out rfl, hb⟩)
          · go_wp2_with (go_at_call 36; refine (lower _ _).mono ?_; rintro e w' ⟨rfl, rfl⟩)
            all_goals (go_ret2; exact ⟨ret_pu HE.out rfl, hb⟩)
        · go_wp2
          go_ret2
          exact ⟨ret_pu HE.out rfl, hb⟩
        · by_cases l2 : 97 ≤ lw x
          · by_cases l3 : lw x ≤ 122
            all_goals
              go_wp2_with (go_at_call 36; refine (lower _ _).mono ?_; rintro e w' ⟨rfl, rfl⟩)
              all_goals (go_ret2; exact ⟨ret_pu HE.out rfl, hb⟩)
          · go_wp2_with (go_at_call 36; refine (lower _ _).mono ?_; rintro e w' ⟨rfl, rfl⟩)
            all_goals (go_ret2; exact ⟨ret_pu HE.out rfl, hb⟩)
    · have HE : Hid (pu 0 (L s) = (n, 0)) := by
        have := HP.out
        rw [List.drop_eq_nil_of_le (by rw [L_len]; omega)] at this
        exact this.symm
      clear HP
      go_wp2
      go_ret2
      exact ⟨ret_pu HE.out rfl, hb⟩
end Go.Proofs.Qxb6600128aDoor
