/- 'Rows.FnShareMatchesBitModelSaid': the walks of lead, share, ZZShare and the law; then the row's step as the shell lays it. -/
import Derived.Test.Qxb6001664aRows
import Derived.WalkKit
import Derived.ProofKit
import Derived.OpenShut
import Derived.ShutString
import Derived.WalkSpells
import Derived.WalkLawsBesides
import Derived.Laws.BytesArg
import Derived.Test.Qxb6001664aShareBits
namespace Go.Proofs.Qxb6001664a.fnShareMatchesBitModel
open Go.ChangeShapes Go.WideShapes Go.ChangeAt Go.RowKit
open Go.ChangeMaps (open_string shut_string)
open Go.Proofs.Qxb6001664a.ShareBits
set_option linter.unusedVariables false

theorem own : ownKnob Try.prog.godebug = none := by kernel_rfl

set_option maxHeartbeats 400000 in
theorem lead (s : ByteArray) (c : Int) (h : 0 < s.size) (hs : (s[0].toNat : Int) = c) (b : Nat) (w : World) (hc : w.cell? ⟨b, 0, none⟩ = some (.string s)) :
    Calls Try.prog 45 #[.pointer (some ⟨b, 0, none⟩)] w fun e w' => e = .returned (.int .u8 c) ∧ w' = w := by
  subst hs
  go_enter Try.func45, Try.ntmps45
  go_wp2
  go_ret
  exact ⟨rfl, rfl⟩

def shareOf (c n l t : Int) : Int := if c = 92 then n else if c = 34 ∨ c = 47 then (if l < t - 1 then t - 1 else l) else l

theorem ret_int {k : IntKind} {a b : Int} (h : a = b) : Ending.returned (.int k a) = .returned (.int k b) := by rw [h]

set_option maxHeartbeats 400000 in
theorem share (s : ByteArray) (c : Int) (h : 0 < s.size) (hs0 : (s[0].toNat : Int) = c) (b : Nat) (n l t : Int) (w : World) (hc : w.cell? ⟨b, 0, none⟩ = some (.string s)) (h0 : 0 ≤ n) (h1 : n ≤ 1073741824)
    (hl : bits .and .i64 n (-n) = l) (ht : bits .and .i64 (n + 1) (-(n + 1)) = t) (h2 : 0 ≤ l) (h3 : l ≤ 1073741824) (h4 : 1 ≤ t) (h5 : t ≤ 1073741825) :
    Calls Try.prog 37 #[.pointer (some ⟨b, 0, none⟩), .int .i64 n] w fun e w' => e = .returned (.int .i64 (shareOf c n l t)) ∧ w' = w := by
  have HS : Hid ((s[0].toNat : Int) = c) := hs0
  clear hs0
  go_enter Try.func37, Try.ntmps37
  go_wp2_with (go_at_call 45; refine (lead s c h HS.out b _ hc).mono ?_; rintro e w' ⟨rfl, rfl⟩)
  all_goals go_ret
  all_goals refine ⟨ret_int ?_, rfl⟩
  all_goals unfold shareOf
  · have : (c == 92) = true := by assumption
    rw [if_pos (by simpa using this)]
  · have g1 : (c == 92) = false := by assumption
    have g2 : (c == 34) = true := by assumption
    rw [if_neg (by simpa using g1), if_pos (Or.inl (by simpa using g2)), if_pos (by omega)]
  · have g1 : (c == 92) = false := by assumption
    have g2 : (c == 34) = true := by assumption
    rw [if_neg (by simpa using g1), if_pos (Or.inl (by simpa using g2)), if_neg (by omega)]
  · have g1 : (c == 92) = false := by assumption
    have g2 : (c == 47) = true := by assumption
    rw [if_neg (by simpa using g1), if_pos (Or.inr (by simpa using g2)), if_pos (by omega)]
  · have g1 : (c == 92) = false := by assumption
    have g2 : (c == 47) = true := by assumption
    rw [if_neg (by simpa using g1), if_pos (Or.inr (by simpa using g2)), if_neg (by omega)]
  · have g1 : (c == 92) = false := by assumption
    have g2 : (c == 34) = false := by assumption
    have g3 : (c == 47) = false := by assumption
    rw [if_neg (by simpa using g1), if_neg (by simp at g2 g3; omega)]

set_option maxHeartbeats 400000 in
theorem zzshare (s : ByteArray) (c : Int) (h : 0 < s.size) (hs0 : (s[0].toNat : Int) = c) (b : Nat) (n l t : Int) (w : World) (hc : w.cell? ⟨b, 0, none⟩ = some (.string s)) (h0 : 0 ≤ n) (h1 : n ≤ 1073741824)
    (hl : bits .and .i64 n (-n) = l) (ht : bits .and .i64 (n + 1) (-(n + 1)) = t) (h2 : 0 ≤ l) (h3 : l ≤ 1073741824) (h4 : 1 ≤ t) (h5 : t ≤ 1073741825) :
    Calls Try.prog 26 #[.pointer (some ⟨b, 0, none⟩), .int .i64 n] w fun e w' => e = .returned (.int .i64 (shareOf c n l t)) ∧ w' = w := by
  have HS : Hid ((s[0].toNat : Int) = c) := hs0
  have HL : Hid (bits .and .i64 n (-n) = l) := hl
  have HT : Hid (bits .and .i64 (n + 1) (-(n + 1)) = t) := ht
  clear hs0 hl ht
  go_enter Try.func26, Try.ntmps26
  go_wp2_with (go_at_call 37; refine (share s c h HS.out b n l t _ hc h0 h1 HL.out HT.out h2 h3 h4 h5).mono ?_; rintro e w' ⟨rfl, rfl⟩)
  go_ret
  exact ⟨rfl, rfl⟩

theorem str1 (a0 : Int) (h0 : 0 ≤ a0) (h1 : a0 ≤ 255) : ((strOfNums [a0])[0]'(by simp [strOfNums_size]) |>.toNat : Int) = a0 := by
  have : (strOfNums [a0])[0]'(by simp [strOfNums_size]) = UInt8.ofNat a0.toNat := rfl
  rw [this]
  simp
  omega

def Low (n l : Nat) : Prop := (n = 0 ∧ l = 0) ∨ (0 < n ∧ P2 l ∧ ∃ q, n = l * (2 * q + 1))
def Dv (b n : Nat) : Prop := n % b = 0

theorem Low.bits {n l : Nat} (h : Low n l) (hn : n ≤ 1073741825) : bits .and .i64 (n : Int) (-(n : Int)) = (l : Int) := by
  rcases h with ⟨rfl, rfl⟩ | ⟨h0, hp, q, rfl⟩
  · rfl
  · exact bits_low l q hp (by omega)
theorem Low.le {n l : Nat} (h : Low n l) : l ≤ n := by
  rcases h with ⟨rfl, rfl⟩ | ⟨h0, hp, q, rfl⟩
  · omega
  · exact Nat.le_mul_of_pos_right _ (by omega)
theorem Low.some (n : Nat) : ∃ l, Low n l := by
  by_cases h : n = 0
  · exact ⟨0, Or.inl ⟨h, rfl⟩⟩
  · obtain ⟨l, q, hl, hn⟩ := ShareBits.part n (by omega)
    exact ⟨l, Or.inr ⟨by omega, hl, q, hn⟩⟩
theorem Low.pos {n l : Nat} (h : Low n l) (hn : 0 < n) : 1 ≤ l := by
  rcases h with ⟨rfl, rfl⟩ | ⟨h0, hp, q, rfl⟩
  · omega
  · exact hp.pos
theorem Low.is {n l b : Nat} (h : Low n l) (hn : 0 < n) (hb : P2 b) (hd : Dv b n) (he : ¬ Dv (2 * b) n) : b = l := by
  rcases h with ⟨rfl, rfl⟩ | ⟨h0, hp, q, hq⟩
  · omega
  · exact low_eq hp hb hq hd he

theorem bridge (a0 : Int) (w : World) :
    (convert 42 9 (Value.slice (some { block := w.heap.size, off := 0 }) 1 1)).run Try.prog (w.alloc (Obj.cells #[Value.int IntKind.u8 a0] 5)) = .ok (.string (strOfNums [a0])) (w.alloc (Obj.cells #[Value.int IntKind.u8 a0] 5)) := by
  refine run_convert_bytes_arg _ 42 5 Try.underlying42 Try.underlying5 w.heap.size 0 1 1 [a0] rfl ?_ 9 Try.underlying9
  intro i hi
  match i, hi with
  | 0, _ => simp

theorem Low.odd {n m t b : Nat} (h : Low (n + 1) t) (hb : P2 b) (e : n + 1 = b * (m + 1)) (ho : m % 2 = 0) : b = t := by
  rcases h with ⟨h0, rfl⟩ | ⟨h0, hp, q, hq⟩
  · omega
  · refine (part_eq hp hb (q := q) (r := m / 2) ?_).symm
    rw [← hq, e, show 2 * (m / 2) + 1 = m + 1 from by omega]
def Up (n m b : Nat) : Prop := n + 1 = b * (m + 1)
theorem Up.next {n m b : Nat} (h : Up n m b) (ho : m % 2 = 1) : Up n (m / 2) (2 * b) := by
  unfold Up at *
  rw [h, Nat.mul_comm 2 b, Nat.mul_assoc]
  congr 1
  omega
theorem Up.le {n m b : Nat} (h : Up n m b) : b ≤ n + 1 := by
  unfold Up at *
  rw [h]; exact Nat.le_mul_of_pos_right _ (by omega)

theorem dv_cast {b n : Nat} : Dv (2 * b) n ↔ ((n : Int) % (2 * (b : Int)) = 0) := by
  unfold Dv
  have : ((n % (2 * b) : Nat) : Int) = (n : Int) % (2 * (b : Int)) := by simp
  omega
theorem Dv.le {b n : Nat} (h : Dv b n) (hn : 0 < n) : b ≤ n := by
  unfold Dv at h
  exact Nat.le_of_dvd hn (Nat.dvd_of_mod_eq_zero h)

/-- What the last row asks, by what the first byte is. -/
theorem fin_bs {a0 g : Int} {n l t : Nat} (h : shareOf a0 n l t = g) (ha : a0 = 92) : (a0 == 92) = true ∧ (g == (n : Int)) = true ∧ 0 ≤ g ∧ g ≤ n := by
  unfold shareOf at h
  rw [if_pos ha] at h
  exact ⟨by simpa using ha, by simp; omega, by omega, by omega⟩
theorem fin_other {a0 g : Int} {n l t : Nat} (h : shareOf a0 n l t = g) (hl : l ≤ n) (ha : ¬ a0 = 92) (hb : ¬ a0 = 34) (hc : ¬ a0 = 47) : (a0 == 92) = false ∧ (a0 == 34) = false ∧ (a0 == 47) = false ∧ (g == (l : Int)) = true ∧ 0 ≤ g ∧ g ≤ n := by
  unfold shareOf at h
  rw [if_neg ha, if_neg (by omega)] at h
  exact ⟨by simpa using ha, by simpa using hb, by simpa using hc, by simp; omega, by omega, by omega⟩
theorem fin_quote {a0 g : Int} {n l t : Nat} (h : shareOf a0 n l t = g) (hl : l ≤ n) (ht0 : 1 ≤ t) (ht : t ≤ n + 1) (ha : a0 = 34 ∨ a0 = 47) : (a0 == 92) = false ∧ ((a0 == 34) = true ∨ (a0 == 34) = false ∧ (a0 == 47) = true) ∧ ((l : Int) < (t : Int) - 1 ∧ (g == ((t : Int) - 1)) = true ∨ ¬ (l : Int) < (t : Int) - 1 ∧ (g == (l : Int)) = true) ∧ 0 ≤ g ∧ g ≤ n := by
  unfold shareOf at h
  rw [if_neg (by omega), if_pos ha] at h
  refine ⟨by simp; omega, by simp; omega, ?_, ?_, ?_⟩
  · by_cases hq : (l : Int) < (t : Int) - 1
    · rw [if_pos hq] at h; exact Or.inl ⟨hq, by simp; omega⟩
    · rw [if_neg hq] at h; exact Or.inr ⟨hq, by simp; omega⟩
  · split at h <;> omega
  · split at h <;> omega

set_option maxHeartbeats 1000000 in
theorem walk_pos (a0 : Int) (n l t : Nat) (b0 : 0 ≤ a0) (b1 : a0 ≤ 255) (hn0 : 0 < n) (hn1 : n ≤ 1073741824) (L : Low n l) (T : Low (n + 1) t) (w : World) :
    Calls Try.prog 8 #[.int .u8 a0, .int .i64 n] w fun e w' => e = .returned (.bool true) ∧ Grown w w' := by
  have hk := bridge a0 w
  have hl1 := L.le
  have hl2 := T.le
  have hl3 := T.pos (by omega)
  have hd1 : decide ((n : Int) < 0) = false := by simp
  have hd2 : decide (1073741824 < (n : Int)) = false := by simp; omega
  have hd3 : decide (0 < (n : Int)) = true := by simp; omega
  go_enter Try.func8, Try.ntmps8
  go_wp2_with (first | (go_at_call 24; go_in) | (go_at_call 26; refine (zzshare (strOfNums [a0]) a0 (by simp [strOfNums_size]) (str1 a0 b0 b1) _ n l t _ (by simp) (by omega) (by omega) (L.bits (by omega)) (T.bits (by omega)) (by omega) (by omega) (by omega) (by omega)).mono ?_; rintro e w' ⟨rfl, rfl⟩))
  generalize hg : shareOf a0 ↑n ↑l ↑t = g
  have HG : Hid (shareOf a0 ↑n ↑l ↑t = g) := hg
  clear hg hk
  go_loop [7] (fun v => ∃ b : Nat, P2 b ∧ b ≤ n ∧ Dv b n ∧ v = .int .i64 b) (fun v => n - (intOf v).toNat)
  case atStart => exact ⟨1, P2.one, by omega, Nat.mod_one n, rfl⟩
  case round =>
    obtain ⟨b, hp, hbn, hdv, rfl⟩ := hrel
    have hp1 := hp.pos
    by_cases hx : Dv (2 * b) n
    · have hlt := hx.le hn0
      have hm : ((n : Int) % (2 * (b : Int)) == 0) = true := by simpa using dv_cast.1 hx
      go_wp2
      go_round
      case rel => exact ⟨2 * b, hp.two, hx.le hn0, hx, by go_num⟩
      case measure => simp [intOf]; omega
    · have hbl := L.is hn0 hp hdv hx
      subst hbl
      have hm : ((n : Int) % (2 * (b : Int)) == 0) = false := by rw [beq_eq_false_iff_ne]; exact fun h => hx (dv_cast.2 h)
      clear hx hdv hp
      by_cases hlt : b < n
      all_goals
        go_wp2
        go_loop [8, 9] (fun v u => ∃ m c : Nat, P2 c ∧ Up n m c ∧ m ≤ n ∧ v = .int .i64 m ∧ u = .int .i64 c) (fun v _ => (intOf v).toNat)
        case atStart => exact ⟨n, 1, P2.one, by unfold Up; omega, by omega, rfl, rfl⟩
        case round =>
          obtain ⟨m, c, hpc, hup, hmn, rfl, rfl⟩ := hrel
          have hcn := hup.le
          by_cases ho : m % 2 = 1
          · have hm1 : ((m : Int) % 2 == 1) = true := by simp; omega
            go_wp2
            go_round
            case rel => exact ⟨m / 2, 2 * c, hpc.two, hup.next ho, by omega, by go_num, by go_num⟩
            case measure => simp [intOf]; omega
          · have hm1 : ((m : Int) % 2 == 1) = false := by simp; omega
            have hct := T.odd hpc hup (by omega)
            subst hct
            by_cases e1 : a0 = 92
            · obtain ⟨f1, f2, f3, f4⟩ := fin_bs HG.out e1
              clear e1
              go_wp2
              go_ret
              exact ⟨rfl, by repeat (first | exact Grown.refl _ | apply Grown.drew | apply Grown.alloc)⟩
            by_cases e2 : a0 = 34 ∨ a0 = 47
            · obtain ⟨f1, f2, f3, f4, f5⟩ := fin_quote HG.out hl1 hl3 hl2 e2
              clear e2 e1
              rcases f2 with f2 | ⟨f2, f2'⟩ <;> rcases f3 with ⟨f3, f3'⟩ | ⟨f3, f3'⟩
              all_goals
                go_wp2
                go_ret
                exact ⟨rfl, by repeat (first | exact Grown.refl _ | apply Grown.drew | apply Grown.alloc)⟩
            · obtain ⟨f1, f2, f3, f4, f5, f6⟩ := fin_other HG.out hl1 e1 (fun h => e2 (Or.inl h)) (fun h => e2 (Or.inr h))
              clear e2 e1
              go_wp2
              go_ret
              exact ⟨rfl, by repeat (first | exact Grown.refl _ | apply Grown.drew | apply Grown.alloc)⟩

theorem share_zero (a0 : Int) : shareOf a0 0 0 1 = 0 := by
  unfold shareOf
  split
  · rfl
  · split <;> rfl

set_option maxHeartbeats 1000000 in
theorem walk_zero (a0 : Int) (b0 : 0 ≤ a0) (b1 : a0 ≤ 255) (w : World) :
    Calls Try.prog 8 #[.int .u8 a0, .int .i64 0] w fun e w' => e = .returned (.bool true) ∧ Grown w w' := by
  have hk := bridge a0 w
  have hz := share_zero a0
  go_enter Try.func8, Try.ntmps8
  go_wp2_with (first | (go_at_call 24; go_in) | (go_at_call 26; refine (zzshare (strOfNums [a0]) a0 (by simp [strOfNums_size]) (str1 a0 b0 b1) _ 0 0 1 _ (by simp) (by omega) (by omega) (by rfl) (by rfl) (by omega) (by omega) (by omega) (by omega)).mono ?_; rintro e w' ⟨rfl, rfl⟩))
  refine wp_loop_rounds 1 ?_
  rw [rounds_succ]
  cases e1 : (a0 == 92) <;> cases e2 : (a0 == 34) <;> cases e3 : (a0 == 47)
  all_goals
    go_wp2
    go_ret
    exact ⟨rfl, by repeat (first | exact Grown.refl _ | apply Grown.drew | apply Grown.alloc)⟩

theorem walk (a0 : Int) (a1 : Int) (w0 : (Lit.int .u8 a0).wf = true) (w1 : (Lit.int .i64 a1).wf = true) (w : World) :
    Calls Try.prog 8 #[.int .u8 a0, .int .i64 a1] w fun e w' => e = .returned (.bool true) ∧ Grown w w' := by
  by_cases ha : a1 < 0
  · go_enter Try.func8, Try.ntmps8
    go_wp2
    go_ret
    exact ⟨rfl, by repeat (first | exact Grown.refl _ | apply Grown.drew | apply Grown.alloc)⟩
  by_cases hb : a1 > 1073741824
  · go_enter Try.func8, Try.ntmps8
    go_wp2
    go_ret
    exact ⟨rfl, by repeat (first | exact Grown.refl _ | apply Grown.drew | apply Grown.alloc)⟩
  obtain ⟨n, rfl⟩ := Int.eq_ofNat_of_zero_le (show 0 ≤ a1 by omega)
  have bd0 := bounds_u8 w0
  by_cases hn : n = 0
  · subst hn; exact walk_zero a0 bd0.1 bd0.2 w
  · obtain ⟨l, hl⟩ := Low.some n
    obtain ⟨t, ht⟩ := Low.some (n + 1)
    exact walk_pos a0 n l t bd0.1 bd0.2 (by omega) (by omega) hl ht w

/-! ### THE ROW's STEP: WRITTEN OUT: LEAVE IT -/
set_option maxRecDepth 100000 in
theorem lifted (os : Os) (started : os.Started) (H : Type) (enc : TypeId × Value → H) :
    ReturnsInHanded {} Try.checked os 8 .any (Rows.fnShareMatchesBitModelSpec.pre6 enc Try.prog Try.f8 Rows.fnShareMatchesBitModelRow.domain false) (Rows.fnShareMatchesBitModelSpec.post enc Try.prog Try.f8 false true false false) := by
  refine returnsInHanded_of_change (C := Try.checked) own started (by kernel_rfl) Try.func8
    (ChangeSpec.witness6 (enc := enc) (C := Try.checked) false ⟨#[], #[.int .u8 0, .int .i64 0], []⟩ 8 (by kernel_rfl) (by kernel_rfl) (by kernel_rfl) (by kernel_rfl)) ?_
  intro W base args ds gs before hval0 hW hcnd _
  have hval : ∀ (j : Nat) t v, Try.f8.params[j]? = some t → args[j]? = some v → Value.okWide Try.prog W .any base t v := hval0
  have hW' := hW
  obtain ⟨p, q, hA0, hV, rfl, hfz, hnd⟩ := hW
  have hA : DataW.TrodAll enc Try.prog W 0 (fun _ => true) true Try.f8.params.toList args.toList ds p := hA0
  rw [Try.params8] at hA hval
  obtain ⟨v0, vs0, d0, ds0, p0, q0, hargs, rfl, rfl, h0, r0⟩ := trodAll_cons hA
  obtain ⟨v1, vs1, d1, ds1, p1, q1, rfl, rfl, rfl, h1, r1⟩ := trodAll_cons r0
  obtain ⟨rfl, rfl, rfl⟩ := trodAll_nil r1
  obtain rfl : args = #[v0, v1] := by cases args; simp_all
  obtain ⟨rfl, rfl⟩ := trodVars_none hV
  obtain ⟨a0, rfl, rfl, rfl, w0⟩ := open_int Try.underlying5 (hval 0 5 v0 rfl rfl) h0
  obtain ⟨a1, rfl, rfl, rfl, w1⟩ := open_int Try.underlying3 (hval 1 3 v1 rfl rfl) h1
  clear hA0 hval0
  simp only [List.append_nil] at hW'
  refine (walk a0 a1 w0 w1 W).mono fun e W' ⟨he, hg⟩ => ?_
  subst he
  exact ⟨_, rfl, post_of_same (pa := []) (pv := []) hW' (fun _ _ _ => (trodAll_cons_mk (shut_bool Try.underlying4 _) trodAll_mk0)) (fun sp _ => (trodAll_cons_mk (shut_int Try.underlying5 w0) (trodAll_cons_mk (shut_int Try.underlying3 w1) trodAll_mk0))) (fun _ _ => rfl) rfl
    (hg.frame _) hg.2.1 (ok_one (by kernel_rfl) rfl (okWide_bool_mk Try.underlying4 _))⟩

theorem over : Rows.fnShareMatchesBitModelRow.holds Try.pinned (OpenSpec.ofChange Rows.fnShareMatchesBitModelSpec) :=
  OpenClaim.holds_of_wide 8 Try.f8 rfl rfl rfl rfl rfl rfl rfl ⟨rfl, rfl, rfl, rfl, rfl⟩ rfl rfl rfl rfl rfl (by kernel_rfl) Try.func8 (by kernel_rfl)
    (of_decide_eq_true (by kernel_rfl)) (by unfold Func.isWrapper; first | (rw [if_pos (by decide +kernel)]; kernel_rfl) | (rw [if_neg (by decide +kernel)]; exact ⟨rfl, rfl⟩))
    (fun os started H enc _ => lifted os started H enc)

/-- ████ THE STATEMENT ████ -/
theorem proved : Rows.FnShareMatchesBitModelSaid :=
  over
#print axioms proved
end Go.Proofs.Qxb6001664a.fnShareMatchesBitModel
