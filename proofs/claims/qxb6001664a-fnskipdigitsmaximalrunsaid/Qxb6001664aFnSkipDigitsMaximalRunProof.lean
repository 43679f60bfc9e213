/- 'Rows.FnSkipDigitsMaximalRunSaid': the walks of isDigit, skipDigits, ZZSkipDigits and the law; then the row's step (closed limb by limb, over 'Below'). -/
import Derived.Test.Qxb6001664aRows
import Derived.WalkKit
import Derived.ProofKit
import Derived.OpenShut
import Derived.ShutString
import Derived.WalkSpells
import Derived.WalkLawsBesides
import Derived.Deep.QuietTactic
import Derived.BigQuiet
import Derived.Deep.LoopGhost
namespace Go.Proofs.Qxb6001664a.fnSkipDigitsMaximalRun
open Go.ChangeShapes Go.WideShapes Go.ChangeAt Go.RowKit
open Go.ChangeMaps (open_string shut_string)
set_option linter.unusedVariables false

theorem own : ownKnob Try.prog.godebug = none := by kernel_rfl

def dg (c : Int) : Bool := decide (48 ≤ c) && decide (c ≤ 57)

set_option maxHeartbeats 400000 in
theorem isDigit (c : Int) (w : World) :
    Calls Try.prog 41 #[.int .u8 c] w fun e w' => e = .returned (.bool (dg c)) ∧ w' = w := by
  go_enter Try.func41, Try.ntmps41
  go_wp2
  all_goals go_ret
  · have h1 : 48 ≤ c := by assumption
    exact ⟨congrArg (fun b => Ending.returned (.bool b)) (by simp [dg, h1]), rfl⟩
  · have h1 : c < 48 := by assumption
    exact ⟨congrArg (fun b => Ending.returned (.bool b)) (by simp [dg]; omega), rfl⟩

set_option maxHeartbeats 400000 in
theorem zzIsDigit (c : Int) (w : World) :
    Calls Try.prog 22 #[.int .u8 c] w fun e w' => e = .returned (.bool (dg c)) ∧ w' = w := by
  go_enter Try.func22, Try.ntmps22
  go_wp2
  all_goals go_ret
  · have h1 : 48 ≤ c := by assumption
    exact ⟨congrArg (fun b => Ending.returned (.bool b)) (by simp [dg, h1]), rfl⟩
  · have h1 : c < 48 := by assumption
    exact ⟨congrArg (fun b => Ending.returned (.bool b)) (by simp [dg]; omega), rfl⟩

def Run (s : ByteArray) (p q : Nat) : Prop :=
  (s.size < p ∧ q = p) ∨ (p ≤ q ∧ q ≤ s.size ∧ (∀ i (h : i < s.size), p ≤ i → i < q → dg s[i].toNat = true) ∧ (∀ h : q < s.size, dg s[q].toNat = false))

theorem Run.stay {s : ByteArray} {q r : Nat} (h : Run s q r) (hq : q ≤ s.size) (hd : ∀ h : q < s.size, dg s[q].toNat = false) : r = q := by
  rcases h with h | ⟨h1, h2, h3, h4⟩
  · omega
  · by_cases e : r = q
    · exact e
    · exfalso
      have hlt : q < s.size := by omega
      have := h3 q hlt (by omega) (by omega)
      rw [hd hlt] at this
      cases this

structure Run2 (s : ByteArray) (p q : Nat) : Prop where
  le : p ≤ q
  le' : q ≤ s.size
  dig : Hid (∀ i (h : i < s.size), p ≤ i → i < q → dg s[i].toNat = true)
  nod : Hid (∀ h : q < s.size, dg s[q].toNat = false)
theorem Run2.of {s : ByteArray} {p q : Nat} (h : Run s p q) (hp : p ≤ s.size) : Run2 s p q := by
  rcases h with h | h
  · omega
  · exact ⟨h.1, h.2.1, h.2.2.1, h.2.2.2⟩

set_option maxHeartbeats 400000 in
theorem skip (s : ByteArray) (hs : s.size ≤ 1048576) (b p : Nat) (k : Int) (w : World) (hc0 : w.cell? ⟨b, 0, none⟩ = some (.string s)) (hc1 : w.cell? ⟨b, 1, none⟩ = some (.int .i64 p)) (hc2 : w.cell? ⟨b, 2, none⟩ = some (.int .i64 k))
    (hf : w.frozen? ⟨b, 1, none⟩ = false) (hp : p ≤ 9223372036854775807) :
    Calls Try.prog 35 #[.pointer (some ⟨b, 0, none⟩)] w fun e w' => ∃ q : Nat, e = .returned (.bool (decide (p < q))) ∧ Run s p q ∧ w'.cell? ⟨b, 0, none⟩ = some (.string s) ∧ w'.cell? ⟨b, 1, none⟩ = some (.int .i64 q) ∧ w'.cell? ⟨b, 2, none⟩ = some (.int .i64 k) ∧ Below b w w' := by
  go_enter Try.func35, Try.ntmps35
  go_wp2_with fail
  go_loopg [] s.size (fun g wr => ∃ j : Nat, p ≤ j ∧ s.size - j ≤ g ∧ (j ≤ s.size ∨ j = p) ∧ Hid (∀ i (h : i < s.size), p ≤ i → i < j → dg s[i].toNat = true) ∧ wr.cell? ⟨b, 0, none⟩ = some (.string s) ∧ wr.cell? ⟨b, 1, none⟩ = some (.int .i64 j) ∧ wr.cell? ⟨b, 2, none⟩ = some (.int .i64 k) ∧ wr.frozen? ⟨b, 1, none⟩ = false ∧ Below b w wr)
  case atStart => exact ⟨p, by omega, by omega, Or.inr rfl, fun i h h1 h2 => by omega, hc0, hc1, hc2, hf, Below.refl _ _⟩
  case round =>
    obtain ⟨j, hpj, hg, hj, hdig, c0, c1, c2, f1, hb⟩ := hrel
    have hb1 : ∀ x, Below b w (wr.setCell ⟨b, 1, none⟩ x) := fun x => hb.setCell (Nat.le_refl _) x
    clear hc0 hc1 hc2 hf
    by_cases hlt : j < s.size
    · have hi : (j : Int) < (s.size : Int) := by omega
      cases hd : dg (s[j].toNat : Int)
      · go_wp2_with fail
        go_quiet ((go_at_call 41; exact Calls.quiet_of_same (isDigit _ _)))
        go_wp2
        go_ret
        refine ⟨j, ?_, Or.inr ⟨by omega, by omega, hdig.out, fun _ => hd⟩, ?_⟩
        · rfl
        · exact ⟨by simpa using c0, by simpa using c1, by simpa using c2, below_drewN hb nq⟩
      · go_wp2_with fail
        go_quiet ((go_at_call 41; exact Calls.quiet_of_same (isDigit _ _)))
        go_wp2
        go_roundg (s.size - (j + 1))
        case measure => omega
        case rel =>
          refine ⟨j + 1, by omega, by omega, by omega, fun i h h1 h2 => ?_, by go_simp, by go_simp, by go_simp, by go_simp, (below_drewN hb nq).setCell (Nat.le_refl _) _⟩
          by_cases e : i = j
          · subst e; exact hd
          · exact hdig.out i h h1 (by omega)
    · have hdf : decide ((j : Int) < (s.size : Int)) = false := by simp; omega
      go_wp2_with fail
      go_quiet ((go_at_call 41; exact Calls.quiet_of_same (isDigit _ _)))
      go_wp2
      go_ret
      refine ⟨j, ?_, ?_, ?_⟩
      · rfl
      · rcases hj with hj | rfl
        · exact Or.inr ⟨by omega, hj, hdig.out, fun h => absurd h hlt⟩
        · by_cases e : s.size < j
          · exact Or.inl ⟨e, rfl⟩
          · exact Or.inr ⟨by omega, by omega, hdig.out, fun h => absurd h hlt⟩
      · exact ⟨by simpa using c0, by simpa using c1, by simpa using c2, below_drewN hb nq⟩

set_option maxHeartbeats 400000 in
theorem zzskip (s : ByteArray) (hs : s.size ≤ 1048576) (p : Nat) (k : Int) (w : World) (hp : p ≤ 9223372036854775807) :
    Calls Try.prog 21 #[.string s, .int .i64 p, .int .i64 k] w fun e w' => ∃ q : Nat, e = .returned (.tuple #[.int .i64 q, .bool (decide (p < q)), .string s, .int .i64 k]) ∧ Run s p q ∧ Below w.heap.size w w' := by
  go_enter Try.func21, Try.ntmps21
  go_wp2_with (go_at_call 35; refine (skip s hs _ p k _ ?x1 ?x2 ?x3 ?x4 hp).mono ?_)
  case x1 => simp
  case x2 => simp
  case x3 => simp
  case x4 => simp
  rintro e w' ⟨q, rfl, hr, c0, c1, c2, hb⟩
  have hb2 : Below w.heap.size w w' := ((Below.refl _ _).alloc (Nat.le_refl _) _).trans hb
  clear hb
  go_wp2_with fail
  go_quiet (fail)
  go_wp2
  exact bodyPost_ret (v := .tuple #[.int .i64 q, .bool (decide (p < q)), .string s, .int .i64 k]) (by simp [results, Try.results21, go_sem]) rfl ⟨q, rfl, hr, below_drewN hb2 nq⟩

set_option maxHeartbeats 400000 in
theorem zzbytes (s : ByteArray) (p k : Int) (w : World) (hs : s.size ≤ maxLen) :
    Calls Try.prog 20 #[.string s, .int .i64 p, .int .i64 k] w fun e w' => e = .returned (.bool (decide (s.size ≤ 1048576))) ∧ w' = w := by
  unfold maxLen at hs
  by_cases h : s.size ≤ 1048576
  · go_enter Try.func20, Try.ntmps20
    go_wp2
    go_ret
    exact ⟨by simp [h], rfl⟩
  · go_enter Try.func20, Try.ntmps20
    go_wp2
    go_ret
    exact ⟨by simp [h], rfl⟩

set_option maxHeartbeats 400000 in
theorem walk (a0 : ByteArray) (a1 : Int) (a2 : Int) (w0 : a0.size ≤ maxLen) (w1 : (Lit.int .i64 a1).wf = true) (w2 : (Lit.int .i64 a2).wf = true) (w : World) :
    Calls Try.prog 5 #[.string a0, .int .i64 a1, .int .i64 a2] w fun e w' => e = .returned (.bool true) ∧ Below w.heap.size w w' := by
  have bd1 := bounds_i64 w1
  have w0' := w0
  unfold maxLen at w0'
  by_cases hs : a0.size ≤ 1048576
  case neg =>
    go_enter Try.func5, Try.ntmps5
    go_wp2_with (go_at_call 20; refine (zzbytes a0 a1 a2 _ w0).mono ?_; rintro e w' ⟨rfl, rfl⟩)
    go_ret
    exact ⟨rfl, Below.refl _ _⟩
  by_cases hp : a1 < 0
  · go_enter Try.func5, Try.ntmps5
    go_wp2_with (go_at_call 20; refine (zzbytes a0 a1 a2 _ w0).mono ?_; rintro e w' ⟨rfl, rfl⟩)
    go_ret
    exact ⟨rfl, Below.refl _ _⟩
  obtain ⟨p, rfl⟩ := Int.eq_ofNat_of_zero_le (show 0 ≤ a1 by omega)
  by_cases hq : a0.size < p
  · go_enter Try.func5, Try.ntmps5
    go_wp2_with (first | (go_at_call 20; refine (zzbytes a0 p a2 _ w0).mono ?_; rintro e w' ⟨rfl, rfl⟩) | (go_at_call 21; refine (zzskip a0 hs p a2 _ (by omega)).mono ?_; rintro e w1 ⟨q, rfl, hr, hb⟩; obtain rfl : q = p := by (rcases hr with h | h <;> omega)))
    go_ret
    exact ⟨rfl, hb⟩
  · have e3 : decide (1048576 < (a0.size : Int)) = false := by simp; omega
    have e4 : decide ((p : Int) < 0) = false := by simp
    go_enter Try.func5, Try.ntmps5
    go_wp2_with (first | (go_at_call 20; refine (zzbytes a0 p a2 _ w0).mono ?_; rintro e w' ⟨rfl, rfl⟩) | (go_at_call 21; refine (zzskip a0 hs p a2 _ (by omega)).mono ?_; rintro e w1 ⟨q, rfl, hr, hb⟩; obtain ⟨hq1, hq2, hq3, hq4⟩ : Run2 a0 p q := Run2.of hr (by omega); clear hr; have e1 : decide (q < p) = false := decide_eq_false (by omega); have e2 : decide (a0.size < q) = false := decide_eq_false (by omega)))
    go_loop [11] (fun v => ∃ i : Nat, p ≤ i ∧ i ≤ q ∧ v = .int .i64 i) (fun v => q - (intOf v).toNat)
    case atStart => exact ⟨p, by omega, by omega, rfl⟩
    case round =>
      obtain ⟨i, hi1, hi2, rfl⟩ := hrel
      by_cases hlt : i < q
      · have hls : i < a0.size := by omega
        have hd := hq3.out i hls hi1 hlt
        go_wp2_with (go_at_call 22; refine (zzIsDigit _ _).mono ?_; rintro e w' ⟨rfl, rfl⟩)
        go_round
        case rel => exact ⟨i + 1, by omega, by omega, by go_num⟩
        case measure => simp [intOf]; omega
      · have hd2 : ∀ (h : q < a0.size), dg (a0[q].toNat : Int) = false := hq4.out
        by_cases hls : q < a0.size
        · have hd := hd2 hls
          clear hd2
          go_wp2_with (go_at_call 22; refine (zzIsDigit _ _).mono ?_; rintro e w' ⟨rfl, rfl⟩)
          refine (zzskip a0 hs q a2 _ (by omega)).mono ?_
          rintro e w2 ⟨r, rfl, hr, hb2⟩
          obtain rfl : r = q := hr.stay hq2 hq4.out
          have hb3 := hb.trans (hb2.mono hb.size)
          clear hr hq3 hq4
          go_wp2
          go_ret
          exact ⟨rfl, hb3⟩
        · clear hd2
          go_wp2_with (go_at_call 22; refine (zzIsDigit _ _).mono ?_; rintro e w' ⟨rfl, rfl⟩)
          refine (zzskip a0 hs q a2 _ (by omega)).mono ?_
          rintro e w2 ⟨r, rfl, hr, hb2⟩
          obtain rfl : r = q := hr.stay hq2 hq4.out
          have hb3 := hb.trans (hb2.mono hb.size)
          clear hr hq3 hq4
          go_wp2
          go_ret
          exact ⟨rfl, hb3⟩
/-! ### THE ROW's STEP: WRITTEN OUT: LEAVE IT -/
set_option maxRecDepth 100000 in
theorem lifted (os : Os) (started : os.Started) (H : Type) (enc : TypeId × Value → H) :
    ReturnsInHanded {} Try.checked os 5 .any (Rows.fnSkipDigitsMaximalRunSpec.pre6 enc Try.prog Try.f5 Rows.fnSkipDigitsMaximalRunRow.domain false) (Rows.fnSkipDigitsMaximalRunSpec.post enc Try.prog Try.f5 false true false false) := by
  refine returnsInHanded_of_change (C := Try.checked) own started (by kernel_rfl) Try.func5
    (ChangeSpec.witness6 (enc := enc) (C := Try.checked) false ⟨#[], #[.string ByteArray.empty, .int .i64 0, .int .i64 0], []⟩ 8 (by kernel_rfl) (by kernel_rfl) (by kernel_rfl) (by kernel_rfl)) ?_
  intro W base args ds gs before hval0 hW hcnd _
  have hval : ∀ (j : Nat) t v, Try.f5.params[j]? = some t → args[j]? = some v → Value.okWide Try.prog W .any base t v := hval0
  have hW' := hW
  obtain ⟨p, q, hA0, hV, rfl, hfz, hnd⟩ := hW
  have hA : DataW.TrodAll enc Try.prog W 0 (fun _ => true) true Try.f5.params.toList args.toList ds p := hA0
  rw [Try.params5] at hA hval
  obtain ⟨v0, vs0, d0, ds0, p0, q0, hargs, rfl, rfl, h0, r0⟩ := trodAll_cons hA
  obtain ⟨v1, vs1, d1, ds1, p1, q1, rfl, rfl, rfl, h1, r1⟩ := trodAll_cons r0
  obtain ⟨v2, vs2, d2, ds2, p2, q2, rfl, rfl, rfl, h2, r2⟩ := trodAll_cons r1
  obtain ⟨rfl, rfl, rfl⟩ := trodAll_nil r2
  obtain rfl : args = #[v0, v1, v2] := by cases args; simp_all
  obtain ⟨rfl, rfl⟩ := trodVars_none hV
  obtain ⟨a0, rfl, rfl, rfl, w0⟩ := open_string Try.underlying9 (hval 0 9 v0 rfl rfl) h0
  obtain ⟨a1, rfl, rfl, rfl, w1⟩ := open_int Try.underlying3 (hval 1 3 v1 rfl rfl) h1
  obtain ⟨a2, rfl, rfl, rfl, w2⟩ := open_int Try.underlying3 (hval 2 3 v2 rfl rfl) h2
  clear hA0 hval0
  simp only [List.append_nil] at hW'
  refine (walk a0 a1 a2 w0 w1 w2 W).mono fun e W' ⟨he, bel⟩ => ?_
  subst he
  exact ⟨_, rfl, _, _, _, [], _, [], hW', trodAll_mk1 (shut_bool Try.underlying4 _), (trodAll_cons_mk (shut_string Try.underlying9 w0) (trodAll_cons_mk (shut_int Try.underlying3 w1) (trodAll_cons_mk (shut_int Try.underlying3 w2) trodAll_mk0))), rfl, bel.frame _, fun h => by cases h⟩

theorem over : Rows.fnSkipDigitsMaximalRunRow.holds Try.pinned (OpenSpec.ofChange Rows.fnSkipDigitsMaximalRunSpec) :=
  OpenClaim.holds_of_wide 5 Try.f5 rfl rfl rfl rfl rfl rfl rfl ⟨rfl, rfl, rfl, rfl, rfl⟩ rfl rfl rfl rfl rfl (by kernel_rfl) Try.func5 (by kernel_rfl)
    (of_decide_eq_true (by kernel_rfl)) (by unfold Func.isWrapper; first | (rw [if_pos (by decide +kernel)]; kernel_rfl) | (rw [if_neg (by decide +kernel)]; exact ⟨rfl, rfl⟩))
    (fun os started H enc _ => lifted os started H enc)

/-- ████ THE STATEMENT ████ -/
theorem proved : Rows.FnSkipDigitsMaximalRunSaid :=
  over
#print axioms proved
end Go.Proofs.Qxb6001664a.fnSkipDigitsMaximalRun
