/- 'Rows.FnSpanTakesWholeBackslashRunsSaid': the law's walk (the text is built in two loops, then span is asked); then the row's step as the shell lays it. -/
import Derived.Test.Qxb6001664aSpanBytes
import Derived.Test.Qxb6001664aSpanRuns
namespace Go.Proofs.Qxb6001664a.fnSpanTakesWholeBackslashRuns
open Go.ChangeShapes Go.WideShapes Go.ChangeAt Go.RowKit
open Go.ChangeMaps (open_string shut_string)
open Go.Proofs.Qxb6001664a.SpanPlain
open Go.Proofs.Qxb6001664a.SpanCalls
open Go.Proofs.Qxb6001664a.SpanBytes
open Go.Proofs.Qxb6001664a.SpanRuns (build noAdj endsB)
set_option linter.unusedVariables false

theorem own : ownKnob Try.prog.godebug = none := by kernel_rfl
theorem laidOut : laidOutB Try.prog = true := by kernel_rfl

/-- WHAT THE WALK IS TOLD OF A SLICE OF INTEGERS THAT CAME IN: it is nil; or it leads to a row of 'cap' cells, the numbers 'zs' (the first 'len' are its elements, the rest its spare room), each fitting its kind. -/
def IsRow (k : IntKind) (w : World) (a : Option Addr) (len cap : Nat) (zs : List Int) : Prop :=
  (a = none ∧ len = 0 ∧ cap = 0 ∧ zs = []) ∨
  ∃ x, a = some x ∧ len ≤ cap ∧ cap ≤ maxLen ∧ zs.length = cap ∧ (∀ i, i < zs.length → w.cell? (x.add i) = some (.int k (zs.getD i 0))) ∧ ∀ n ∈ zs, (Lit.int k n).wf = true

/-- The clone of the runs: where it is not empty, a row of its own. -/
def Runs (w : World) (ra : Option Addr) (ys : List UInt8) : Prop := 0 < ys.length → ∃ g, ra = some ⟨g, 0, none⟩ ∧ g < w.heap.size ∧ ∀ i (h : i < ys.length), w.cell? ⟨g, i, none⟩ = some (.int .u8 (ys[i].toNat : Int))

theorem Runs.below {w w' : World} {ra : Option Addr} {ys : List UInt8} (h : Runs w ra ys) {B : Nat} (hB : w.heap.size ≤ B) (hb : Below B w w') : Runs w' ra ys := by
  intro hp
  obtain ⟨g, h1, h2, h3⟩ := h hp
  exact ⟨g, h1, Nat.lt_of_lt_of_le h2 hb.size, fun i hi => (hb.cell (p := ⟨g, i, none⟩) (Nat.lt_of_lt_of_le h2 hB)).trans (h3 i hi)⟩

theorem clone_any {w : World} {a : Option Addr} {len cap : Nat} {zs : List Int} (h : IsRow .u8 w a len cap zs) (hlen : len ≤ 4096) :
    Calls Try.prog 28 #[.slice a len cap] w fun e w' => ∃ ra rc ys, e = .returned (.slice ra len rc) ∧ ys.length = len ∧ Runs w' ra ys ∧ Below w.heap.size w w' := by
  rcases h with ⟨rfl, rfl, rfl, rfl⟩ | ⟨x, rfl, hl, hm, hz, hcell, hwf⟩
  · refine (clone_nil w).mono ?_
    rintro e w' ⟨rfl, rfl⟩
    exact ⟨none, 0, [], rfl, rfl, fun h => by simp at h, Below.refl _ _⟩
  · obtain ⟨ys, hys⟩ : ∃ ys : List UInt8, ys = (zs.take len).map fun n => UInt8.ofNat n.toNat := ⟨_, rfl⟩
    have hyl : ys.length = len := by rw [hys]; simp; omega
    have hat : ∀ i (h : i < ys.length), (ys[i].toNat : Int) = zs.getD i 0 := by
      intro i hi
      have hi2 : i < zs.length := by omega
      have hw := bounds_u8 (hwf (zs[i]) (List.getElem_mem hi2))
      have e1 : ys[i] = UInt8.ofNat (zs[i]).toNat := by
        subst hys
        simp
      rw [e1]
      simp [List.getD, List.getElem?_eq_getElem hi2]
      omega
    subst hyl
    refine (clone_some x ys cap w (by omega) fun i hi => ?_).mono ?_
    · rw [hcell i (by omega), hat i hi]
    · rintro e w' ⟨rfl, hO, hb⟩
      exact ⟨_, _, ys, rfl, rfl, fun _ => ⟨_, rfl, hO.lt, fun i hi => hO.cell i hi⟩, hb⟩

set_option maxHeartbeats 1000000 in
theorem zzbytes (s : ByteArray) (a : Option Addr) (len cap : Nat) (u : ByteArray) (w : World) (h0 : s.size ≤ maxLen) (h1 : len ≤ maxLen) (h2 : u.size ≤ maxLen) :
    Calls Try.prog 27 #[.string s, .slice a len cap, .string u] w fun e w' => ∃ b : Bool, e = .returned (.bool b) ∧ (b = true → s.size ≤ 1048576 ∧ len ≤ 1048576 ∧ u.size ≤ 1048576) ∧ w = w' := by
  unfold maxLen at *
  by_cases c0 : s.size ≤ 1048576
  case neg =>
    go_enter Try.func27, Try.ntmps27
    go_wp2
    go_ret
    exact ⟨false, rfl, fun h => (by cases h), rfl⟩
  by_cases c1 : len ≤ 1048576
  case neg =>
    go_enter Try.func27, Try.ntmps27
    go_wp2
    go_ret
    exact ⟨false, rfl, fun h => (by cases h), rfl⟩
  by_cases c2 : s.size + len ≤ 1048576
  case neg =>
    go_enter Try.func27, Try.ntmps27
    go_wp2
    go_ret
    exact ⟨false, rfl, fun h => (by cases h), rfl⟩
  by_cases c3 : u.size ≤ 1048576
  case neg =>
    go_enter Try.func27, Try.ntmps27
    go_wp2
    go_ret
    exact ⟨false, rfl, fun h => (by cases h), rfl⟩
  by_cases c4 : s.size + len + u.size ≤ 1048576
  case neg =>
    go_enter Try.func27, Try.ntmps27
    go_wp2
    go_ret
    exact ⟨false, rfl, fun h => (by cases h), rfl⟩
  go_enter Try.func27, Try.ntmps27
  go_wp2
  go_ret
  exact ⟨true, rfl, fun _ => ⟨c0, c1, c3⟩, rfl⟩

set_option maxRecDepth 100000 in
set_option maxHeartbeats 1000000 in
theorem walk_big (s : ByteArray) (a : Option Addr) (len cap : Nat) (u : ByteArray) (w : World) (h0 : s.size ≤ maxLen) (h1 : len ≤ maxLen) (h2 : u.size ≤ maxLen) (hbig : ¬ (s.size ≤ 4096 ∧ len ≤ 4096 ∧ u.size ≤ 4096)) :
    Calls Try.prog 9 #[.string s, .slice a len cap, .string u] w fun e w' => e = .returned (.bool true) ∧ Below w.heap.size w w' := by
  have HZ : Hid (∀ w, Calls Try.prog 27 #[.string s, .slice a len cap, .string u] w fun e w' => ∃ b : Bool, e = .returned (.bool b) ∧ (b = true → s.size ≤ 1048576 ∧ len ≤ 1048576 ∧ u.size ≤ 1048576) ∧ w = w') := fun w => zzbytes s a len cap u w h0 h1 h2
  unfold maxLen at *
  go_enter Try.func9, Try.ntmps9
  go_wp2_with (go_at_call 27; refine (HZ.out _).mono ?_)
  rintro e w' ⟨b, rfl, hb, rfl⟩
  cases b
  · clear hb
    go_wp2
    go_ret
    exact ⟨rfl, Below.refl _ _⟩
  · obtain ⟨g0, g1, g2⟩ := hb rfl
    by_cases k0 : s.size + len + u.size ≤ 1048576
    · by_cases k1 : s.size ≤ 4096
      · by_cases k2 : len ≤ 4096
        · have k3 : ¬ u.size ≤ 4096 := fun h => hbig ⟨k1, k2, h⟩
          clear hbig
          go_wp2
          go_ret
          exact ⟨rfl, Below.refl _ _⟩
        · clear hbig
          go_wp2
          go_ret
          exact ⟨rfl, Below.refl _ _⟩
      · clear hbig
        go_wp2
        go_ret
        exact ⟨rfl, Below.refl _ _⟩
    · clear hbig
      go_wp2
      go_ret
      exact ⟨rfl, Below.refl _ _⟩

/-- How long the k-th run is. -/
def rOf (ys : List UInt8) (k : Nat) : Nat := if ys.length = 0 then 1 else 1 + (ys.getD (k % ys.length) 0).toNat % 8
theorem rOf_lo (ys : List UInt8) (k : Nat) : 1 ≤ rOf ys k := by unfold rOf; split <;> omega
theorem rOf_hi (ys : List UInt8) (k : Nat) : rOf ys k ≤ 8 := by unfold rOf; split <;> omega

theorem made_ownB {w : World} {g n : Nat} (h : w.ownsRow g 5 1 (.slice (some ⟨g, 0, none⟩) 0 n) 0 []) : OwnB w g n [] := h


/-- What span answers at the text that is built: by what the spelling ends with. -/
theorem span_res {s u : ByteArray} {ys : List UInt8} {T : List UInt8} {k : Nat} {last : Int} {E M : Bool} {w : World} {sp G CAP : Nat} (hT : build (rOf ys) (L s) = (T, k, last)) (hN : noAdj (L s)) (hS : endsB (L s) = true → (L u).head? ≠ some 92) (hE : endsB (L s) = E)
    (h1 : s.size ≤ 4096) (h2 : T.length + u.size ≤ 1099511627776) (hO : OwnB w G CAP (T ++ L u)) (f1 : w.cell? ⟨sp, 0, none⟩ = some (.string s)) (f2 : w.cell? ⟨sp, 1, none⟩ = some (.bool false)) (hM : E = true → (L u).isEmpty = M) :
    Calls Try.prog 29 #[.pointer (some ⟨sp, 0, none⟩), .slice (some ⟨G, 0, none⟩) (T.length + u.size) CAP] w fun e w' => e = .returned (tup (if E = true then (last + 1, (T.length : Int), M) else ((T.length : Int), (T.length : Int), false))) ∧ ∃ q, w' = w.drewN q := by
  have hsz : (ByteArray.mk (T ++ L u).toArray).size = T.length + u.size := by
    show (T ++ L u).toArray.size = _
    simp
  have hle := hO.le
  rw [List.length_append, L_len] at hle
  have h := zzspan (spans_false s ⟨(T ++ L u).toArray⟩ sp G CAP (by omega) (by rw [hsz]; exact h2) (by rw [hsz]; exact hle) w hO.text f1 f2)
  rw [hsz] at h
  have e : spanAll false (L s) (L ⟨(T ++ L u).toArray⟩) = if E = true then (last + 1, (T.length : Int), M) else ((T.length : Int), (T.length : Int), false) := by
    have e1 : spanAll false (L s) (L ⟨(T ++ L u).toArray⟩) = spanFrom false (L s) (T ++ L u) 0 := by simp [spanAll, L]
    rw [e1]
    have := SpanRuns.law_all (rOf ys) (rOf_lo ys) (L s) (L u) hN hS
    rw [hT, hE] at this
    rw [this]
    cases E
    · rfl
    · rw [if_pos rfl, if_pos rfl, hM rfl]
  rw [e] at h
  exact h


theorem ends_cases (s : ByteArray) : (s.size = 0 ∧ endsB (L s) = false) ∨ (∃ h : s.size - 1 < s.size, s[s.size - 1] ≠ 92 ∧ endsB (L s) = false) ∨ (∃ h : s.size - 1 < s.size, s[s.size - 1] = 92 ∧ endsB (L s) = true) := by
  by_cases h : s.size = 0
  · have hnil : L s = [] := List.eq_nil_of_length_eq_zero (by rw [L_len]; exact h)
    exact Or.inl ⟨h, by rw [hnil]; rfl⟩
  · have hlt : s.size - 1 < s.size := by omega
    have e : (L s).getLast? = some s[s.size - 1] := by
      rw [List.getLast?_eq_getElem?, L_len, List.getElem?_eq_getElem (by rw [L_len]; exact hlt), L_at s _ hlt]
    by_cases hc : s[s.size - 1] = 92
    · exact Or.inr (Or.inr ⟨hlt, hc, by unfold endsB; rw [e, hc]; rfl⟩)
    · exact Or.inr (Or.inl ⟨hlt, hc, by unfold endsB; rw [e]; simpa using hc⟩)


set_option maxRecDepth 100000 in
set_option maxHeartbeats 8000000 in
theorem walk_main (s : ByteArray) (a : Option Addr) (len cap : Nat) (zs : List Int) (u : ByteArray) (w : World) (h0 : s.size ≤ 4096) (h1 : len ≤ 4096) (h2 : u.size ≤ 4096) (hrow : IsRow .u8 w a len cap zs) :
    Calls Try.prog 9 #[.string s, .slice a len cap, .string u] w fun e w' => e = .returned (.bool true) ∧ Below w.heap.size w w' := by
  have HZ : Hid (∀ w, Calls Try.prog 27 #[.string s, .slice a len cap, .string u] w fun e w' => ∃ b : Bool, e = .returned (.bool b) ∧ (b = true → s.size ≤ 1048576 ∧ len ≤ 1048576 ∧ u.size ≤ 1048576) ∧ w = w') := fun w => zzbytes s a len cap u w (by unfold maxLen; omega) (by unfold maxLen; omega) (by unfold maxLen; omega)
  have HROW : Hid (IsRow .u8 w a len cap zs) := hrow
  clear hrow
  have d1 : decide (1048576 < (s.size : Int) + (len : Int) + (u.size : Int)) = false := by simp; omega
  have d2 : decide (4096 < (s.size : Int)) = false := by simp; omega
  have d3 : decide (4096 < (len : Int)) = false := by simp; omega
  have d4 : decide (4096 < (u.size : Int)) = false := by simp; omega
  go_enter Try.func9, Try.ntmps9
  go_wp2_with (go_at_call 27; refine (HZ.out _).mono ?_)
  rintro e w' ⟨b, rfl, hb, rfl⟩
  clear hb HZ
  cases b
  · go_wp2
    go_ret
    exact ⟨rfl, Below.refl _ _⟩
  go_wp2_with fail
  go_loop [7] (fun v => ∃ i : Nat, v = .int .i64 i ∧ (i = 0 ∨ i < s.size) ∧ Hid (∀ k (h : k + 1 < s.size), k < i → ¬ (s[k] = 92 ∧ s[k + 1] = 92))) (fun v => s.size - (intOf v).toNat)
  case atStart => exact ⟨0, rfl, Or.inl rfl, fun k h hk => by omega⟩
  case round =>
    obtain ⟨i, rfl, hi, HADJ⟩ := hrel
    by_cases hlt : i + 1 < s.size
    · have v0 : i < s.size := by omega
      by_cases c1 : s[i] = 92
      · have v1 := beq92_t c1
        by_cases c2 : s[i + 1] = 92
        · have v2 := beq92_t c2
          clear c1 c2
          go_wp2
          go_ret
          exact ⟨rfl, Below.refl _ _⟩
        · have v2 := beq92_f c2
          have c2' : Hid (¬ s[i + 1] = 92) := c2
          clear c1 c2
          go_wp2
          go_round
          case rel => 
            refine ⟨i + 1, by go_num, Or.inr hlt, fun k h hk => ?_⟩
            by_cases e : k = i
            · subst e; exact fun hh => c2'.out hh.2
            · exact HADJ.out k h (by omega)
          case measure => simp [intOf]; omega
      · have v1 := beq92_f c1
        have c1' : Hid (¬ s[i] = 92) := c1
        clear c1
        go_wp2
        go_round
        case rel =>
          refine ⟨i + 1, by go_num, Or.inr hlt, fun k h hk => ?_⟩
          by_cases e : k = i
          · subst e; exact fun hh => c1'.out hh.1
          · exact HADJ.out k h (by omega)
        case measure => simp [intOf]; omega
    · have HN : Hid (noAdj (L s)) := by
        refine SpanRuns.noAdj_of _ fun k h => ?_
        rw [L_len] at h
        rw [L_at s k (by omega), L_at s (k + 1) h]
        exact HADJ.out k h (by omega)
      clear HADJ
      have hcase : (s.size = 0 ∧ endsB (L s) = false) ∨ (∃ h : s.size - 1 < s.size, s[s.size - 1] ≠ 92 ∧ endsB (L s) = false) ∨ (∃ h : s.size - 1 < s.size, s[s.size - 1] = 92 ∧ endsB (L s) = true) := ends_cases s
      have hlen : len ≤ 4096 := h1
      obtain ⟨i0, hi0, hz0, hz1, hz2⟩ := info_parts info5
      have HI : Hid (Try.prog.info? 5 = some i0) := hi0
      clear hi0
      rcases hcase with ⟨hz, hE⟩ | ⟨hp, hc, hE⟩ | ⟨hp, hc, hE⟩
      · have HE : Hid (endsB (L s) = false) := hE
        have hzz : s.size < 1 := by omega
        have HSU : Hid (endsB (L s) = true → (L u).head? ≠ some 92) := fun h => by rw [hE] at h; cases h
        clear hE hz
        go_wp2_with (first
          | (go_at_call 28; refine (clone_any HROW.out hlen).mono ?_; rintro e w1 ⟨ra, rc, ys, rfl, hyl, hR, hb1⟩; subst hyl; have HR : Hid (Runs w1 ra ys) := hR; clear hR HROW)
          | (at_make; refine wpList_make_own _ rfl _ (.tmp 94) 42 rfl w1.heap.size 5 i0 (.int .u8 0) 1 Try.underlying42 HI.out hz0 hz1 .i64 .i64 _ (8 * s.size + u.size) rfl rfl ?m1 ?m2 ?m3 (Nat.le_refl _) ?_))
        case m1 => omega
        case m2 => rw [hz2]; omega
        case m3 => unfold maxLen; omega
        intro w2 hown hgrow
        have HO : Hid (OwnB w2 w1.heap.size (8 * s.size + u.size) []) := made_ownB hown
        have hb2 : Below w1.heap.size w1 w2 := (Below.refl _ _).grown hgrow (Nat.le_refl _) (by simp)
        have HR2 : Hid (Runs w2 ra ys) := HR.out.below (Nat.le_refl _) hb2
        have hb3 : Below w.heap.size w w2 := hb1.trans (hb2.mono hb1.size)
        have HRG : Hid (0 < ys.length → ∃ g, ra = some ⟨g, 0, none⟩ ∧ g < w1.heap.size) := fun h => by obtain ⟨g, e1, e2, _⟩ := HR.out h; exact ⟨g, e1, e2⟩
        have hws : w.heap.size ≤ w1.heap.size := hb1.size
        clear hown hgrow hb2 HR hb1
        generalize w1.heap.size = G at *
        go_wp2_with fail
        go_loopw [9, 10, 11, 12] (fun vt vl vk vi wr => ∃ (i : Nat) (T : List UInt8) (k : Nat) (last : Int), i ≤ s.size ∧ Hid (build (rOf ys) ((L s).take i) = (T, k, last)) ∧ vt = .slice (some ⟨G, 0, none⟩) T.length (8 * s.size + u.size) ∧ vl = .int .i64 last ∧ vk = .int .i64 k ∧ vi = .int .i64 i ∧ OwnB wr G (8 * s.size + u.size) T ∧ Below G w2 wr) (fun _ _ _ vi _ => s.size - (intOf vi).toNat)
        case atStart => exact ⟨0, [], 0, -1, by omega, SpanRuns.build_zero _ _, rfl, rfl, rfl, rfl, HO.out, Below.refl _ _⟩
        case round =>
          obtain ⟨i, T, k, last, hi, HB, rfl, rfl, rfl, rfl, hO, hbr⟩ := hrel
          obtain ⟨bd1, bd2, bd3, bd4⟩ := SpanRuns.build_bd (rOf ys) (rOf_hi ys) (L s) i (by rw [L_len]; exact hi)
          rw [HB.out] at bd1 bd2 bd3 bd4
          dsimp only at bd1 bd2 bd3 bd4
          have HO3 : Hid (OwnB wr G (8 * s.size + u.size) T) := hO
          clear hO
          by_cases hlt : i < s.size
          · exfalso; omega
          · have HT : Hid (build (rOf ys) (L s) = (T, k, last)) := by
              have := HB.out
              rw [show i = s.size from by omega, List.take_of_length_le (by rw [L_len]; exact Nat.le_refl _)] at this
              exact this
            clear HB HR2 HRG
            have bd1' : T.length ≤ 8 * s.size := by omega
            have bd4' : last ≤ 8 * (s.size : Int) := by omega
            go_wp2_with fail
            go_loopw [9, 16] (fun vt vm wq => ∃ m : Nat, m ≤ u.size ∧ vm = .int .i64 m ∧ vt = .slice (some ⟨G, 0, none⟩) (T.length + m) (8 * s.size + u.size) ∧ OwnB wq G (8 * s.size + u.size) (T ++ (L u).take m) ∧ Below G w2 wq) (fun _ vm _ => u.size - (intOf vm).toNat)
            case atStart => exact ⟨0, by omega, rfl, rfl, by simpa using HO3.out, hbr⟩
            case round =>
              clear HO3 hbr
              obtain ⟨m, hm, rfl, rfl, hO, hbq⟩ := hrel
              have HQ : Hid (OwnB wr G (8 * s.size + u.size) (T ++ (L u).take m)) := hO
              clear hO
              by_cases hlq : m < u.size
              · go_wp2_with (at_builtin; refine wpList_pushB _ rfl (.tmp 145) (.tmp 149) rfl G (T.length + m) (8 * s.size + u.size) (T ++ (L u).take m) u[m] rfl rfl (by simp; omega) HQ.out (by omega) ?_)
                intro w3 hO3 hb4
                have HO4 : Hid (OwnB w3 G (8 * s.size + u.size) (T ++ (L u).take (m + 1))) := by
                  rw [List.take_succ_eq_append_getElem (by rw [L_len]; exact hlq), L_at u m hlq]
                  first | exact hO3 | (rw [← List.append_assoc]; exact hO3)
                clear hO3 HQ
                go_wp2
                go_roundw
                case rel => exact ⟨m + 1, by omega, by go_num, rfl, HO4.out, hbq.trans hb4⟩
                case measure => simp [intOf]; omega
              · obtain rfl : m = u.size := by omega
                have HQ2 : Hid (OwnB wr G (8 * s.size + u.size) (T ++ L u)) := by
                  have := HQ.out
                  rw [List.take_of_length_le (by rw [L_len]; exact Nat.le_refl _)] at this
                  exact this
                have hGl : G < wr.heap.size := HQ2.out.lt
                clear HQ
                go_wp2_with (first
                  | (go_at_call 30; refine (newSpelling _ _ _).mono ?_; rintro e w4 ⟨rfl, f1, f2, f3, f4⟩; have HSP : Hid (Calls Try.prog 29 #[.pointer (some ⟨wr.heap.size, 0, none⟩), .slice (some ⟨G, 0, none⟩) (T.length + u.size) (8 * s.size + u.size)] w4 fun e w' => e = .returned (tup ((T.length : Int), (T.length : Int), false)) ∧ ∃ q, w' = w4.drewN q) := span_res HT.out HN.out HSU.out HE.out (by omega) (by omega) (HQ2.out.below f4 hGl) f1 f2 (M := false) (fun h => by cases h); clear f1 f2 f3)
                  | (go_at_call 29; refine HSP.out.mono ?_; rintro e w5 ⟨rfl, q, rfl⟩; unfold tup))
                go_ret
                exact ⟨rfl, below_drewN (hb3.trans ((hbq.mono hws).trans (f4.mono (by omega)))) _⟩
      · have HE : Hid (endsB (L s) = false) := hE
        have hzz : 0 < s.size := by omega
        have vz := beq92_f hc
        have HSU : Hid (endsB (L s) = true → (L u).head? ≠ some 92) := fun h => by rw [hE] at h; cases h
        clear hE hc
        go_wp2_with (first
          | (go_at_call 28; refine (clone_any HROW.out hlen).mono ?_; rintro e w1 ⟨ra, rc, ys, rfl, hyl, hR, hb1⟩; subst hyl; have HR : Hid (Runs w1 ra ys) := hR; clear hR HROW)
          | (at_make; refine wpList_make_own _ rfl _ (.tmp 94) 42 rfl w1.heap.size 5 i0 (.int .u8 0) 1 Try.underlying42 HI.out hz0 hz1 .i64 .i64 _ (8 * s.size + u.size) rfl rfl ?m1 ?m2 ?m3 (Nat.le_refl _) ?_))
        case m1 => omega
        case m2 => rw [hz2]; omega
        case m3 => unfold maxLen; omega
        intro w2 hown hgrow
        have HO : Hid (OwnB w2 w1.heap.size (8 * s.size + u.size) []) := made_ownB hown
        have hb2 : Below w1.heap.size w1 w2 := (Below.refl _ _).grown hgrow (Nat.le_refl _) (by simp)
        have HR2 : Hid (Runs w2 ra ys) := HR.out.below (Nat.le_refl _) hb2
        have hb3 : Below w.heap.size w w2 := hb1.trans (hb2.mono hb1.size)
        have HRG : Hid (0 < ys.length → ∃ g, ra = some ⟨g, 0, none⟩ ∧ g < w1.heap.size) := fun h => by obtain ⟨g, e1, e2, _⟩ := HR.out h; exact ⟨g, e1, e2⟩
        have hws : w.heap.size ≤ w1.heap.size := hb1.size
        clear hown hgrow hb2 HR hb1
        generalize w1.heap.size = G at *
        go_wp2_with fail
        go_loopw [9, 10, 11, 12] (fun vt vl vk vi wr => ∃ (i : Nat) (T : List UInt8) (k : Nat) (last : Int), i ≤ s.size ∧ Hid (build (rOf ys) ((L s).take i) = (T, k, last)) ∧ vt = .slice (some ⟨G, 0, none⟩) T.length (8 * s.size + u.size) ∧ vl = .int .i64 last ∧ vk = .int .i64 k ∧ vi = .int .i64 i ∧ OwnB wr G (8 * s.size + u.size) T ∧ Below G w2 wr) (fun _ _ _ vi _ => s.size - (intOf vi).toNat)
        case atStart => exact ⟨0, [], 0, -1, by omega, SpanRuns.build_zero _ _, rfl, rfl, rfl, rfl, HO.out, Below.refl _ _⟩
        case round =>
          obtain ⟨i, T, k, last, hi, HB, rfl, rfl, rfl, rfl, hO, hbr⟩ := hrel
          obtain ⟨bd1, bd2, bd3, bd4⟩ := SpanRuns.build_bd (rOf ys) (rOf_hi ys) (L s) i (by rw [L_len]; exact hi)
          rw [HB.out] at bd1 bd2 bd3 bd4
          dsimp only at bd1 bd2 bd3 bd4
          have HO3 : Hid (OwnB wr G (8 * s.size + u.size) T) := hO
          clear hO
          by_cases hlt : i < s.size
          · by_cases c1 : s[i] = 92
            · have v1 := beq92_t c1
              have v1n : ((s[i].toNat : Int) != 92) = false := by rw [bne, v1]; rfl
              have EE : Hid (build (rOf ys) ((L s).take (i + 1)) = (T ++ List.replicate (rOf ys k) 92, k + 1, (T.length : Int))) := by
                have := SpanRuns.build_run (rOf ys) (L s) i (by rw [L_len]; exact hlt) (by rw [L_at s i hlt]; exact c1)
                rw [HB.out] at this
                exact this
              have hr1 := rOf_lo ys k
              have hr8 := rOf_hi ys k
              clear c1 HB
              by_cases hy : 0 < ys.length
              · obtain ⟨g, hra, hg⟩ := HRG.out hy
                have hcell : wr.cell? ⟨g, k % ys.length, none⟩ = some (.int .u8 (ys[k % ys.length]'(Nat.mod_lt _ hy)).toNat) := by
                  obtain ⟨g', e1, e2, e3⟩ := HR2.out hy
                  rw [hra] at e1
                  injection e1 with e1
                  injection e1 with e1
                  subst e1
                  rw [hbr.cell (p := ⟨g, k % ys.length, none⟩) hg]
                  exact e3 _ (Nat.mod_lt _ hy)
                have hRK : rOf ys k = 1 + (ys[k % ys.length]'(Nat.mod_lt _ hy)).toNat % 8 := by
                  unfold rOf
                  rw [if_neg (by omega)]
                  simp [List.getD, List.getElem?_eq_getElem (Nat.mod_lt k hy)]
                generalize (ys[k % ys.length]'(Nat.mod_lt _ hy)).toNat = x at *
                have HRK : Hid (rOf ys k = 1 + x % 8) := hRK
                clear hRK
                rw [hra]
                clear hra
                have hm1 : (0 : Int) ≤ (k : Int) % (ys.length : Int) := Int.emod_nonneg _ (by omega)
                have hm2 : (k : Int) % (ys.length : Int) < (ys.length : Int) := Int.emod_lt_of_pos _ (by omega)
                have hkb : (k : Int) < 4096 := by omega
                go_wp2_with fail
                clear hm1 hm2 hcell
                go_loopw [9, 14] (fun vt vq wq => ∃ q : Nat, q ≤ 1 + x % 8 ∧ vq = .int .i64 q ∧ vt = .slice (some ⟨G, 0, none⟩) (T.length + q) (8 * s.size + u.size) ∧ OwnB wq G (8 * s.size + u.size) (T ++ List.replicate q 92) ∧ Below G w2 wq) (fun _ vq _ => 1 + x % 8 - (intOf vq).toNat)
                case atStart => exact ⟨0, by omega, rfl, rfl, by simpa using HO3.out, hbr⟩
                case round =>
                  clear HO3 hbr
                  obtain ⟨q, hq, rfl, rfl, hO, hbq⟩ := hrel
                  have HQ : Hid (OwnB wr G (8 * s.size + u.size) (T ++ List.replicate q 92)) := hO
                  clear hO
                  by_cases hlq : q < 1 + x % 8
                  · go_wp2_with (at_builtin; refine wpList_pushB _ rfl (.tmp 134) (.tmp 135) rfl G (T.length + q) (8 * s.size + u.size) (T ++ List.replicate q 92) 92 rfl rfl (by simp) HQ.out (by omega) ?_)
                    intro w3 hO3 hb4
                    have HO4 : Hid (OwnB w3 G (8 * s.size + u.size) (T ++ List.replicate (q + 1) 92)) := by
                      rw [List.replicate_succ']
                      first | exact hO3 | (rw [← List.append_assoc]; exact hO3)
                    clear hO3 HQ
                    go_wp2
                    go_roundw
                    case rel => exact ⟨q + 1, by omega, by go_num, rfl, HO4.out, hbq.trans hb4⟩
                    case measure => simp [intOf]; omega
                  · obtain rfl : q = 1 + x % 8 := by omega
                    go_wp2
                    go_roundw
                    case rel => exact ⟨i + 1, _, _, _, by omega, by rw [HRK.out] at EE; exact EE, by simp, rfl, by go_num, by go_num, HQ.out, hbq⟩
                    case measure => simp [intOf]; omega
              · have HRK : Hid (rOf ys k = 1) := by
                  show _ = _
                  unfold rOf
                  rw [if_pos (by omega)]
                go_wp2_with fail
                go_loopw [9, 14] (fun vt vq wq => ∃ q : Nat, q ≤ 1 ∧ vq = .int .i64 q ∧ vt = .slice (some ⟨G, 0, none⟩) (T.length + q) (8 * s.size + u.size) ∧ OwnB wq G (8 * s.size + u.size) (T ++ List.replicate q 92) ∧ Below G w2 wq) (fun _ vq _ => 1 - (intOf vq).toNat)
                case atStart => exact ⟨0, by omega, rfl, rfl, by simpa using HO3.out, hbr⟩
                case round =>
                  clear HO3 hbr
                  obtain ⟨q, hq, rfl, rfl, hO, hbq⟩ := hrel
                  have HQ : Hid (OwnB wr G (8 * s.size + u.size) (T ++ List.replicate q 92)) := hO
                  clear hO
                  by_cases hlq : q < 1
                  · go_wp2_with (at_builtin; refine wpList_pushB _ rfl (.tmp 134) (.tmp 135) rfl G (T.length + q) (8 * s.size + u.size) (T ++ List.replicate q 92) 92 rfl rfl (by simp) HQ.out (by omega) ?_)
                    intro w3 hO3 hb4
                    have HO4 : Hid (OwnB w3 G (8 * s.size + u.size) (T ++ List.replicate (q + 1) 92)) := by
                      rw [List.replicate_succ']
                      first | exact hO3 | (rw [← List.append_assoc]; exact hO3)
                    clear hO3 HQ
                    go_wp2
                    go_roundw
                    case rel => exact ⟨q + 1, by omega, by go_num, rfl, HO4.out, hbq.trans hb4⟩
                    case measure => simp [intOf]; omega
                  · obtain rfl : q = 1 := by omega
                    go_wp2
                    go_roundw
                    case rel => exact ⟨i + 1, _, _, _, by omega, by rw [HRK.out] at EE; exact EE, by simp, rfl, by go_num, by go_num, HQ.out, hbq⟩
                    case measure => simp [intOf]; omega
            · have v1 := beq92_f c1
              have EE : Hid (build (rOf ys) ((L s).take (i + 1)) = (T ++ [s[i]], k, last)) := by
                have := SpanRuns.build_one (rOf ys) (L s) i (by rw [L_len]; exact hlt) (by rw [L_at s i hlt]; exact c1)
                rw [HB.out, L_at s i hlt] at this
                exact this
              clear c1 HB
              go_wp2_with (at_builtin; refine wpList_pushB _ rfl (.tmp 106) (.tmp 110) rfl G T.length (8 * s.size + u.size) T s[i] rfl rfl rfl HO3.out (by omega) ?_)
              intro w3 hO3 hb4
              have HO4 : Hid (OwnB w3 G (8 * s.size + u.size) (T ++ [s[i]])) := hO3
              clear hO3 HO3
              go_wp2
              go_roundw
              case rel => exact ⟨i + 1, _, _, _, by omega, EE, by simp, rfl, rfl, by go_num, HO4.out, hbr.trans hb4⟩
              case measure => simp [intOf]; omega

          · have HT : Hid (build (rOf ys) (L s) = (T, k, last)) := by
              have := HB.out
              rw [show i = s.size from by omega, List.take_of_length_le (by rw [L_len]; exact Nat.le_refl _)] at this
              exact this
            clear HB HR2 HRG
            have bd1' : T.length ≤ 8 * s.size := by omega
            have bd4' : last ≤ 8 * (s.size : Int) := by omega
            go_wp2_with fail
            go_loopw [9, 16] (fun vt vm wq => ∃ m : Nat, m ≤ u.size ∧ vm = .int .i64 m ∧ vt = .slice (some ⟨G, 0, none⟩) (T.length + m) (8 * s.size + u.size) ∧ OwnB wq G (8 * s.size + u.size) (T ++ (L u).take m) ∧ Below G w2 wq) (fun _ vm _ => u.size - (intOf vm).toNat)
            case atStart => exact ⟨0, by omega, rfl, rfl, by simpa using HO3.out, hbr⟩
            case round =>
              clear HO3 hbr
              obtain ⟨m, hm, rfl, rfl, hO, hbq⟩ := hrel
              have HQ : Hid (OwnB wr G (8 * s.size + u.size) (T ++ (L u).take m)) := hO
              clear hO
              by_cases hlq : m < u.size
              · go_wp2_with (at_builtin; refine wpList_pushB _ rfl (.tmp 145) (.tmp 149) rfl G (T.length + m) (8 * s.size + u.size) (T ++ (L u).take m) u[m] rfl rfl (by simp; omega) HQ.out (by omega) ?_)
                intro w3 hO3 hb4
                have HO4 : Hid (OwnB w3 G (8 * s.size + u.size) (T ++ (L u).take (m + 1))) := by
                  rw [List.take_succ_eq_append_getElem (by rw [L_len]; exact hlq), L_at u m hlq]
                  first | exact hO3 | (rw [← List.append_assoc]; exact hO3)
                clear hO3 HQ
                go_wp2
                go_roundw
                case rel => exact ⟨m + 1, by omega, by go_num, rfl, HO4.out, hbq.trans hb4⟩
                case measure => simp [intOf]; omega
              · obtain rfl : m = u.size := by omega
                have HQ2 : Hid (OwnB wr G (8 * s.size + u.size) (T ++ L u)) := by
                  have := HQ.out
                  rw [List.take_of_length_le (by rw [L_len]; exact Nat.le_refl _)] at this
                  exact this
                have hGl : G < wr.heap.size := HQ2.out.lt
                clear HQ
                go_wp2_with (first
                  | (go_at_call 30; refine (newSpelling _ _ _).mono ?_; rintro e w4 ⟨rfl, f1, f2, f3, f4⟩; have HSP : Hid (Calls Try.prog 29 #[.pointer (some ⟨wr.heap.size, 0, none⟩), .slice (some ⟨G, 0, none⟩) (T.length + u.size) (8 * s.size + u.size)] w4 fun e w' => e = .returned (tup ((T.length : Int), (T.length : Int), false)) ∧ ∃ q, w' = w4.drewN q) := span_res HT.out HN.out HSU.out HE.out (by omega) (by omega) (HQ2.out.below f4 hGl) f1 f2 (M := false) (fun h => by cases h); clear f1 f2 f3)
                  | (go_at_call 29; refine HSP.out.mono ?_; rintro e w5 ⟨rfl, q, rfl⟩; unfold tup))
                go_ret
                exact ⟨rfl, below_drewN (hb3.trans ((hbq.mono hws).trans (f4.mono (by omega)))) _⟩
      · have HE : Hid (endsB (L s) = true) := hE
        have hzz : 0 < s.size := by omega
        have vz := beq92_t hc
        clear hE hc
        by_cases hu : 0 < u.size
        · by_cases hu0 : u[0] = 92
          · have vu := beq92_t hu0
            clear hu0
            go_wp2
            go_ret
            exact ⟨rfl, Below.refl _ _⟩
          · have vu := beq92_f hu0
            have hue : ((u.size : Int) == 0) = false := by rw [beq_eq_false_iff_ne]; omega
            have HSU : Hid (endsB (L s) = true → (L u).head? ≠ some 92) := fun _ => by
              rw [List.head?_eq_getElem?, List.getElem?_eq_getElem (by rw [L_len]; exact hu), L_at u 0 hu]
              simpa using hu0
            have HM : Hid ((L u).isEmpty = false) := by
              show _ = _
              rw [List.isEmpty_eq_false_iff]
              intro h
              have := congrArg List.length h
              rw [L_len] at this
              simp only [List.length_nil] at this
              omega
            clear hu0
            go_wp2_with (first
              | (go_at_call 28; refine (clone_any HROW.out hlen).mono ?_; rintro e w1 ⟨ra, rc, ys, rfl, hyl, hR, hb1⟩; subst hyl; have HR : Hid (Runs w1 ra ys) := hR; clear hR HROW)
              | (at_make; refine wpList_make_own _ rfl _ (.tmp 94) 42 rfl w1.heap.size 5 i0 (.int .u8 0) 1 Try.underlying42 HI.out hz0 hz1 .i64 .i64 _ (8 * s.size + u.size) rfl rfl ?m1 ?m2 ?m3 (Nat.le_refl _) ?_))
            case m1 => omega
            case m2 => rw [hz2]; omega
            case m3 => unfold maxLen; omega
            intro w2 hown hgrow
            have HO : Hid (OwnB w2 w1.heap.size (8 * s.size + u.size) []) := made_ownB hown
            have hb2 : Below w1.heap.size w1 w2 := (Below.refl _ _).grown hgrow (Nat.le_refl _) (by simp)
            have HR2 : Hid (Runs w2 ra ys) := HR.out.below (Nat.le_refl _) hb2
            have hb3 : Below w.heap.size w w2 := hb1.trans (hb2.mono hb1.size)
            have HRG : Hid (0 < ys.length → ∃ g, ra = some ⟨g, 0, none⟩ ∧ g < w1.heap.size) := fun h => by obtain ⟨g, e1, e2, _⟩ := HR.out h; exact ⟨g, e1, e2⟩
            have hws : w.heap.size ≤ w1.heap.size := hb1.size
            clear hown hgrow hb2 HR hb1
            generalize w1.heap.size = G at *
            go_wp2_with fail
            go_loopw [9, 10, 11, 12] (fun vt vl vk vi wr => ∃ (i : Nat) (T : List UInt8) (k : Nat) (last : Int), i ≤ s.size ∧ Hid (build (rOf ys) ((L s).take i) = (T, k, last)) ∧ vt = .slice (some ⟨G, 0, none⟩) T.length (8 * s.size + u.size) ∧ vl = .int .i64 last ∧ vk = .int .i64 k ∧ vi = .int .i64 i ∧ OwnB wr G (8 * s.size + u.size) T ∧ Below G w2 wr) (fun _ _ _ vi _ => s.size - (intOf vi).toNat)
            case atStart => exact ⟨0, [], 0, -1, by omega, SpanRuns.build_zero _ _, rfl, rfl, rfl, rfl, HO.out, Below.refl _ _⟩
            case round =>
              obtain ⟨i, T, k, last, hi, HB, rfl, rfl, rfl, rfl, hO, hbr⟩ := hrel
              obtain ⟨bd1, bd2, bd3, bd4⟩ := SpanRuns.build_bd (rOf ys) (rOf_hi ys) (L s) i (by rw [L_len]; exact hi)
              rw [HB.out] at bd1 bd2 bd3 bd4
              dsimp only at bd1 bd2 bd3 bd4
              have HO3 : Hid (OwnB wr G (8 * s.size + u.size) T) := hO
              clear hO
              by_cases hlt : i < s.size
              · by_cases c1 : s[i] = 92
                · have v1 := beq92_t c1
                  have v1n : ((s[i].toNat : Int) != 92) = false := by rw [bne, v1]; rfl
                  have EE : Hid (build (rOf ys) ((L s).take (i + 1)) = (T ++ List.replicate (rOf ys k) 92, k + 1, (T.length : Int))) := by
                    have := SpanRuns.build_run (rOf ys) (L s) i (by rw [L_len]; exact hlt) (by rw [L_at s i hlt]; exact c1)
                    rw [HB.out] at this
                    exact this
                  have hr1 := rOf_lo ys k
                  have hr8 := rOf_hi ys k
                  clear c1 HB
                  by_cases hy : 0 < ys.length
                  · obtain ⟨g, hra, hg⟩ := HRG.out hy
                    have hcell : wr.cell? ⟨g, k % ys.length, none⟩ = some (.int .u8 (ys[k % ys.length]'(Nat.mod_lt _ hy)).toNat) := by
                      obtain ⟨g', e1, e2, e3⟩ := HR2.out hy
                      rw [hra] at e1
                      injection e1 with e1
                      injection e1 with e1
                      subst e1
                      rw [hbr.cell (p := ⟨g, k % ys.length, none⟩) hg]
                      exact e3 _ (Nat.mod_lt _ hy)
                    have hRK : rOf ys k = 1 + (ys[k % ys.length]'(Nat.mod_lt _ hy)).toNat % 8 := by
                      unfold rOf
                      rw [if_neg (by omega)]
                      simp [List.getD, List.getElem?_eq_getElem (Nat.mod_lt k hy)]
                    generalize (ys[k % ys.length]'(Nat.mod_lt _ hy)).toNat = x at *
                    have HRK : Hid (rOf ys k = 1 + x % 8) := hRK
                    clear hRK
                    rw [hra]
                    clear hra
                    have hm1 : (0 : Int) ≤ (k : Int) % (ys.length : Int) := Int.emod_nonneg _ (by omega)
                    have hm2 : (k : Int) % (ys.length : Int) < (ys.length : Int) := Int.emod_lt_of_pos _ (by omega)
                    have hkb : (k : Int) < 4096 := by omega
                    go_wp2_with fail
                    clear hm1 hm2 hcell
                    go_loopw [9, 14] (fun vt vq wq => ∃ q : Nat, q ≤ 1 + x % 8 ∧ vq = .int .i64 q ∧ vt = .slice (some ⟨G, 0, none⟩) (T.length + q) (8 * s.size + u.size) ∧ OwnB wq G (8 * s.size + u.size) (T ++ List.replicate q 92) ∧ Below G w2 wq) (fun _ vq _ => 1 + x % 8 - (intOf vq).toNat)
                    case atStart => exact ⟨0, by omega, rfl, rfl, by simpa using HO3.out, hbr⟩
                    case round =>
                      clear HO3 hbr
                      obtain ⟨q, hq, rfl, rfl, hO, hbq⟩ := hrel
                      have HQ : Hid (OwnB wr G (8 * s.size + u.size) (T ++ List.replicate q 92)) := hO
                      clear hO
                      by_cases hlq : q < 1 + x % 8
                      · go_wp2_with (at_builtin; refine wpList_pushB _ rfl (.tmp 134) (.tmp 135) rfl G (T.length + q) (8 * s.size + u.size) (T ++ List.replicate q 92) 92 rfl rfl (by simp) HQ.out (by omega) ?_)
                        intro w3 hO3 hb4
                        have HO4 : Hid (OwnB w3 G (8 * s.size + u.size) (T ++ List.replicate (q + 1) 92)) := by
                          rw [List.replicate_succ']
                          first | exact hO3 | (rw [← List.append_assoc]; exact hO3)
                        clear hO3 HQ
                        go_wp2
                        go_roundw
                        case rel => exact ⟨q + 1, by omega, by go_num, rfl, HO4.out, hbq.trans hb4⟩
                        case measure => simp [intOf]; omega
                      · obtain rfl : q = 1 + x % 8 := by omega
                        go_wp2
                        go_roundw
                        case rel => exact ⟨i + 1, _, _, _, by omega, by rw [HRK.out] at EE; exact EE, by simp, rfl, by go_num, by go_num, HQ.out, hbq⟩
                        case measure => simp [intOf]; omega
                  · have HRK : Hid (rOf ys k = 1) := by
                      show _ = _
                      unfold rOf
                      rw [if_pos (by omega)]
                    go_wp2_with fail
                    go_loopw [9, 14] (fun vt vq wq => ∃ q : Nat, q ≤ 1 ∧ vq = .int .i64 q ∧ vt = .slice (some ⟨G, 0, none⟩) (T.length + q) (8 * s.size + u.size) ∧ OwnB wq G (8 * s.size + u.size) (T ++ List.replicate q 92) ∧ Below G w2 wq) (fun _ vq _ => 1 - (intOf vq).toNat)
                    case atStart => exact ⟨0, by omega, rfl, rfl, by simpa using HO3.out, hbr⟩
                    case round =>
                      clear HO3 hbr
                      obtain ⟨q, hq, rfl, rfl, hO, hbq⟩ := hrel
                      have HQ : Hid (OwnB wr G (8 * s.size + u.size) (T ++ List.replicate q 92)) := hO
                      clear hO
                      by_cases hlq : q < 1
                      · go_wp2_with (at_builtin; refine wpList_pushB _ rfl (.tmp 134) (.tmp 135) rfl G (T.length + q) (8 * s.size + u.size) (T ++ List.replicate q 92) 92 rfl rfl (by simp) HQ.out (by omega) ?_)
                        intro w3 hO3 hb4
                        have HO4 : Hid (OwnB w3 G (8 * s.size + u.size) (T ++ List.replicate (q + 1) 92)) := by
                          rw [List.replicate_succ']
                          first | exact hO3 | (rw [← List.append_assoc]; exact hO3)
                        clear hO3 HQ
                        go_wp2
                        go_roundw
                        case rel => exact ⟨q + 1, by omega, by go_num, rfl, HO4.out, hbq.trans hb4⟩
                        case measure => simp [intOf]; omega
                      · obtain rfl : q = 1 := by omega
                        go_wp2
                        go_roundw
                        case rel => exact ⟨i + 1, _, _, _, by omega, by rw [HRK.out] at EE; exact EE, by simp, rfl, by go_num, by go_num, HQ.out, hbq⟩
                        case measure => simp [intOf]; omega
                · have v1 := beq92_f c1
                  have EE : Hid (build (rOf ys) ((L s).take (i + 1)) = (T ++ [s[i]], k, last)) := by
                    have := SpanRuns.build_one (rOf ys) (L s) i (by rw [L_len]; exact hlt) (by rw [L_at s i hlt]; exact c1)
                    rw [HB.out, L_at s i hlt] at this
                    exact this
                  clear c1 HB
                  go_wp2_with (at_builtin; refine wpList_pushB _ rfl (.tmp 106) (.tmp 110) rfl G T.length (8 * s.size + u.size) T s[i] rfl rfl rfl HO3.out (by omega) ?_)
                  intro w3 hO3 hb4
                  have HO4 : Hid (OwnB w3 G (8 * s.size + u.size) (T ++ [s[i]])) := hO3
                  clear hO3 HO3
                  go_wp2
                  go_roundw
                  case rel => exact ⟨i + 1, _, _, _, by omega, EE, by simp, rfl, rfl, by go_num, HO4.out, hbr.trans hb4⟩
                  case measure => simp [intOf]; omega

              · have HT : Hid (build (rOf ys) (L s) = (T, k, last)) := by
                  have := HB.out
                  rw [show i = s.size from by omega, List.take_of_length_le (by rw [L_len]; exact Nat.le_refl _)] at this
                  exact this
                clear HB HR2 HRG
                have bd1' : T.length ≤ 8 * s.size := by omega
                have bd4' : last ≤ 8 * (s.size : Int) := by omega
                go_wp2_with fail
                go_loopw [9, 16] (fun vt vm wq => ∃ m : Nat, m ≤ u.size ∧ vm = .int .i64 m ∧ vt = .slice (some ⟨G, 0, none⟩) (T.length + m) (8 * s.size + u.size) ∧ OwnB wq G (8 * s.size + u.size) (T ++ (L u).take m) ∧ Below G w2 wq) (fun _ vm _ => u.size - (intOf vm).toNat)
                case atStart => exact ⟨0, by omega, rfl, rfl, by simpa using HO3.out, hbr⟩
                case round =>
                  clear HO3 hbr
                  obtain ⟨m, hm, rfl, rfl, hO, hbq⟩ := hrel
                  have HQ : Hid (OwnB wr G (8 * s.size + u.size) (T ++ (L u).take m)) := hO
                  clear hO
                  by_cases hlq : m < u.size
                  · go_wp2_with (at_builtin; refine wpList_pushB _ rfl (.tmp 145) (.tmp 149) rfl G (T.length + m) (8 * s.size + u.size) (T ++ (L u).take m) u[m] rfl rfl (by simp; omega) HQ.out (by omega) ?_)
                    intro w3 hO3 hb4
                    have HO4 : Hid (OwnB w3 G (8 * s.size + u.size) (T ++ (L u).take (m + 1))) := by
                      rw [List.take_succ_eq_append_getElem (by rw [L_len]; exact hlq), L_at u m hlq]
                      first | exact hO3 | (rw [← List.append_assoc]; exact hO3)
                    clear hO3 HQ
                    go_wp2
                    go_roundw
                    case rel => exact ⟨m + 1, by omega, by go_num, rfl, HO4.out, hbq.trans hb4⟩
                    case measure => simp [intOf]; omega
                  · obtain rfl : m = u.size := by omega
                    have HQ2 : Hid (OwnB wr G (8 * s.size + u.size) (T ++ L u)) := by
                      have := HQ.out
                      rw [List.take_of_length_le (by rw [L_len]; exact Nat.le_refl _)] at this
                      exact this
                    have hGl : G < wr.heap.size := HQ2.out.lt
                    clear HQ
                    go_wp2_with (first
                      | (go_at_call 30; refine (newSpelling _ _ _).mono ?_; rintro e w4 ⟨rfl, f1, f2, f3, f4⟩; have HSP : Hid (Calls Try.prog 29 #[.pointer (some ⟨wr.heap.size, 0, none⟩), .slice (some ⟨G, 0, none⟩) (T.length + u.size) (8 * s.size + u.size)] w4 fun e w' => e = .returned (tup (last + 1, (T.length : Int), false)) ∧ ∃ q, w' = w4.drewN q) := span_res HT.out HN.out HSU.out HE.out (by omega) (by omega) (HQ2.out.below f4 hGl) f1 f2 (M := false) (fun _ => HM.out); clear f1 f2 f3)
                      | (go_at_call 29; refine HSP.out.mono ?_; rintro e w5 ⟨rfl, q, rfl⟩; unfold tup))
                    go_ret
                    exact ⟨rfl, below_drewN (hb3.trans ((hbq.mono hws).trans (f4.mono (by omega)))) _⟩
        · have hu' : u.size < 1 := by omega
          have hue : ((u.size : Int) == 0) = true := by rw [beq_iff_eq]; omega
          have hnil : L u = [] := List.eq_nil_of_length_eq_zero (by rw [L_len]; omega)
          have HSU : Hid (endsB (L s) = true → (L u).head? ≠ some 92) := fun _ => by rw [hnil]; simp
          have HM : Hid ((L u).isEmpty = true) := by
            show _ = _
            rw [hnil]
            rfl
          clear hnil hu
          go_wp2_with (first
            | (go_at_call 28; refine (clone_any HROW.out hlen).mono ?_; rintro e w1 ⟨ra, rc, ys, rfl, hyl, hR, hb1⟩; subst hyl; have HR : Hid (Runs w1 ra ys) := hR; clear hR HROW)
            | (at_make; refine wpList_make_own _ rfl _ (.tmp 94) 42 rfl w1.heap.size 5 i0 (.int .u8 0) 1 Try.underlying42 HI.out hz0 hz1 .i64 .i64 _ (8 * s.size + u.size) rfl rfl ?m1 ?m2 ?m3 (Nat.le_refl _) ?_))
          case m1 => omega
          case m2 => rw [hz2]; omega
          case m3 => unfold maxLen; omega
          intro w2 hown hgrow
          have HO : Hid (OwnB w2 w1.heap.size (8 * s.size + u.size) []) := made_ownB hown
          have hb2 : Below w1.heap.size w1 w2 := (Below.refl _ _).grown hgrow (Nat.le_refl _) (by simp)
          have HR2 : Hid (Runs w2 ra ys) := HR.out.below (Nat.le_refl _) hb2
          have hb3 : Below w.heap.size w w2 := hb1.trans (hb2.mono hb1.size)
          have HRG : Hid (0 < ys.length → ∃ g, ra = some ⟨g, 0, none⟩ ∧ g < w1.heap.size) := fun h => by obtain ⟨g, e1, e2, _⟩ := HR.out h; exact ⟨g, e1, e2⟩
          have hws : w.heap.size ≤ w1.heap.size := hb1.size
          clear hown hgrow hb2 HR hb1
          generalize w1.heap.size = G at *
          go_wp2_with fail
          go_loopw [9, 10, 11, 12] (fun vt vl vk vi wr => ∃ (i : Nat) (T : List UInt8) (k : Nat) (last : Int), i ≤ s.size ∧ Hid (build (rOf ys) ((L s).take i) = (T, k, last)) ∧ vt = .slice (some ⟨G, 0, none⟩) T.length (8 * s.size + u.size) ∧ vl = .int .i64 last ∧ vk = .int .i64 k ∧ vi = .int .i64 i ∧ OwnB wr G (8 * s.size + u.size) T ∧ Below G w2 wr) (fun _ _ _ vi _ => s.size - (intOf vi).toNat)
          case atStart => exact ⟨0, [], 0, -1, by omega, SpanRuns.build_zero _ _, rfl, rfl, rfl, rfl, HO.out, Below.refl _ _⟩
          case round =>
            obtain ⟨i, T, k, last, hi, HB, rfl, rfl, rfl, rfl, hO, hbr⟩ := hrel
            obtain ⟨bd1, bd2, bd3, bd4⟩ := SpanRuns.build_bd (rOf ys) (rOf_hi ys) (L s) i (by rw [L_len]; exact hi)
            rw [HB.out] at bd1 bd2 bd3 bd4
            dsimp only at bd1 bd2 bd3 bd4
            have HO3 : Hid (OwnB wr G (8 * s.size + u.size) T) := hO
            clear hO
            by_cases hlt : i < s.size
            · by_cases c1 : s[i] = 92
              · have v1 := beq92_t c1
                have v1n : ((s[i].toNat : Int) != 92) = false := by rw [bne, v1]; rfl
                have EE : Hid (build (rOf ys) ((L s).take (i + 1)) = (T ++ List.replicate (rOf ys k) 92, k + 1, (T.length : Int))) := by
                  have := SpanRuns.build_run (rOf ys) (L s) i (by rw [L_len]; exact hlt) (by rw [L_at s i hlt]; exact c1)
                  rw [HB.out] at this
                  exact this
                have hr1 := rOf_lo ys k
                have hr8 := rOf_hi ys k
                clear c1 HB
                by_cases hy : 0 < ys.length
                · obtain ⟨g, hra, hg⟩ := HRG.out hy
                  have hcell : wr.cell? ⟨g, k % ys.length, none⟩ = some (.int .u8 (ys[k % ys.length]'(Nat.mod_lt _ hy)).toNat) := by
                    obtain ⟨g', e1, e2, e3⟩ := HR2.out hy
                    rw [hra] at e1
                    injection e1 with e1
                    injection e1 with e1
                    subst e1
                    rw [hbr.cell (p := ⟨g, k % ys.length, none⟩) hg]
                    exact e3 _ (Nat.mod_lt _ hy)
                  have hRK : rOf ys k = 1 + (ys[k % ys.length]'(Nat.mod_lt _ hy)).toNat % 8 := by
                    unfold rOf
                    rw [if_neg (by omega)]
                    simp [List.getD, List.getElem?_eq_getElem (Nat.mod_lt k hy)]
                  generalize (ys[k % ys.length]'(Nat.mod_lt _ hy)).toNat = x at *
                  have HRK : Hid (rOf ys k = 1 + x % 8) := hRK
                  clear hRK
                  rw [hra]
                  clear hra
                  have hm1 : (0 : Int) ≤ (k : Int) % (ys.length : Int) := Int.emod_nonneg _ (by omega)
                  have hm2 : (k : Int) % (ys.length : Int) < (ys.length : Int) := Int.emod_lt_of_pos _ (by omega)
                  have hkb : (k : Int) < 4096 := by omega
                  go_wp2_with fail
                  clear hm1 hm2 hcell
                  go_loopw [9, 14] (fun vt vq wq => ∃ q : Nat, q ≤ 1 + x % 8 ∧ vq = .int .i64 q ∧ vt = .slice (some ⟨G, 0, none⟩) (T.length + q) (8 * s.size + u.size) ∧ OwnB wq G (8 * s.size + u.size) (T ++ List.replicate q 92) ∧ Below G w2 wq) (fun _ vq _ => 1 + x % 8 - (intOf vq).toNat)
                  case atStart => exact ⟨0, by omega, rfl, rfl, by simpa using HO3.out, hbr⟩
                  case round =>
                    clear HO3 hbr
                    obtain ⟨q, hq, rfl, rfl, hO, hbq⟩ := hrel
                    have HQ : Hid (OwnB wr G (8 * s.size + u.size) (T ++ List.replicate q 92)) := hO
                    clear hO
                    by_cases hlq : q < 1 + x % 8
                    · go_wp2_with (at_builtin; refine wpList_pushB _ rfl (.tmp 134) (.tmp 135) rfl G (T.length + q) (8 * s.size + u.size) (T ++ List.replicate q 92) 92 rfl rfl (by simp) HQ.out (by omega) ?_)
                      intro w3 hO3 hb4
                      have HO4 : Hid (OwnB w3 G (8 * s.size + u.size) (T ++ List.replicate (q + 1) 92)) := by
                        rw [List.replicate_succ']
                        first | exact hO3 | (rw [← List.append_assoc]; exact hO3)
                      clear hO3 HQ
                      go_wp2
                      go_roundw
                      case rel => exact ⟨q + 1, by omega, by go_num, rfl, HO4.out, hbq.trans hb4⟩
                      case measure => simp [intOf]; omega
                    · obtain rfl : q = 1 + x % 8 := by omega
                      go_wp2
                      go_roundw
                      case rel => exact ⟨i + 1, _, _, _, by omega, by rw [HRK.out] at EE; exact EE, by simp, rfl, by go_num, by go_num, HQ.out, hbq⟩
                      case measure => simp [intOf]; omega
                · have HRK : Hid (rOf ys k = 1) := by
                    show _ = _
                    unfold rOf
                    rw [if_pos (by omega)]
                  go_wp2_with fail
                  go_loopw [9, 14] (fun vt vq wq => ∃ q : Nat, q ≤ 1 ∧ vq = .int .i64 q ∧ vt = .slice (some ⟨G, 0, none⟩) (T.length + q) (8 * s.size + u.size) ∧ OwnB wq G (8 * s.size + u.size) (T ++ List.replicate q 92) ∧ Below G w2 wq) (fun _ vq _ => 1 - (intOf vq).toNat)
                  case atStart => exact ⟨0, by omega, rfl, rfl, by simpa using HO3.out, hbr⟩
                  case round =>
                    clear HO3 hbr
                    obtain ⟨q, hq, rfl, rfl, hO, hbq⟩ := hrel
                    have HQ : Hid (OwnB wr G (8 * s.size + u.size) (T ++ List.replicate q 92)) := hO
                    clear hO
                    by_cases hlq : q < 1
                    · go_wp2_with (at_builtin; refine wpList_pushB _ rfl (.tmp 134) (.tmp 135) rfl G (T.length + q) (8 * s.size + u.size) (T ++ List.replicate q 92) 92 rfl rfl (by simp) HQ.out (by omega) ?_)
                      intro w3 hO3 hb4
                      have HO4 : Hid (OwnB w3 G (8 * s.size + u.size) (T ++ List.replicate (q + 1) 92)) := by
                        rw [List.replicate_succ']
                        first | exact hO3 | (rw [← List.append_assoc]; exact hO3)
                      clear hO3 HQ
                      go_wp2
                      go_roundw
                      case rel => exact ⟨q + 1, by omega, by go_num, rfl, HO4.out, hbq.trans hb4⟩
                      case measure => simp [intOf]; omega
                    · obtain rfl : q = 1 := by omega
                      go_wp2
                      go_roundw
                      case rel => exact ⟨i + 1, _, _, _, by omega, by rw [HRK.out] at EE; exact EE, by simp, rfl, by go_num, by go_num, HQ.out, hbq⟩
                      case measure => simp [intOf]; omega
              · have v1 := beq92_f c1
                have EE : Hid (build (rOf ys) ((L s).take (i + 1)) = (T ++ [s[i]], k, last)) := by
                  have := SpanRuns.build_one (rOf ys) (L s) i (by rw [L_len]; exact hlt) (by rw [L_at s i hlt]; exact c1)
                  rw [HB.out, L_at s i hlt] at this
                  exact this
                clear c1 HB
                go_wp2_with (at_builtin; refine wpList_pushB _ rfl (.tmp 106) (.tmp 110) rfl G T.length (8 * s.size + u.size) T s[i] rfl rfl rfl HO3.out (by omega) ?_)
                intro w3 hO3 hb4
                have HO4 : Hid (OwnB w3 G (8 * s.size + u.size) (T ++ [s[i]])) := hO3
                clear hO3 HO3
                go_wp2
                go_roundw
                case rel => exact ⟨i + 1, _, _, _, by omega, EE, by simp, rfl, rfl, by go_num, HO4.out, hbr.trans hb4⟩
                case measure => simp [intOf]; omega

            · have HT : Hid (build (rOf ys) (L s) = (T, k, last)) := by
                have := HB.out
                rw [show i = s.size from by omega, List.take_of_length_le (by rw [L_len]; exact Nat.le_refl _)] at this
                exact this
              clear HB HR2 HRG
              have bd1' : T.length ≤ 8 * s.size := by omega
              have bd4' : last ≤ 8 * (s.size : Int) := by omega
              go_wp2_with fail
              go_loopw [9, 16] (fun vt vm wq => ∃ m : Nat, m ≤ u.size ∧ vm = .int .i64 m ∧ vt = .slice (some ⟨G, 0, none⟩) (T.length + m) (8 * s.size + u.size) ∧ OwnB wq G (8 * s.size + u.size) (T ++ (L u).take m) ∧ Below G w2 wq) (fun _ vm _ => u.size - (intOf vm).toNat)
              case atStart => exact ⟨0, by omega, rfl, rfl, by simpa using HO3.out, hbr⟩
              case round =>
                clear HO3 hbr
                obtain ⟨m, hm, rfl, rfl, hO, hbq⟩ := hrel
                have HQ : Hid (OwnB wr G (8 * s.size + u.size) (T ++ (L u).take m)) := hO
                clear hO
                by_cases hlq : m < u.size
                · exfalso; omega
                · obtain rfl : m = u.size := by omega
                  have HQ2 : Hid (OwnB wr G (8 * s.size + u.size) (T ++ L u)) := by
                    have := HQ.out
                    rw [List.take_of_length_le (by rw [L_len]; exact Nat.le_refl _)] at this
                    exact this
                  have hGl : G < wr.heap.size := HQ2.out.lt
                  clear HQ
                  go_wp2_with (first
                    | (go_at_call 30; refine (newSpelling _ _ _).mono ?_; rintro e w4 ⟨rfl, f1, f2, f3, f4⟩; have HSP : Hid (Calls Try.prog 29 #[.pointer (some ⟨wr.heap.size, 0, none⟩), .slice (some ⟨G, 0, none⟩) (T.length + u.size) (8 * s.size + u.size)] w4 fun e w' => e = .returned (tup (last + 1, (T.length : Int), true)) ∧ ∃ q, w' = w4.drewN q) := span_res HT.out HN.out HSU.out HE.out (by omega) (by omega) (HQ2.out.below f4 hGl) f1 f2 (M := true) (fun _ => HM.out); clear f1 f2 f3)
                    | (go_at_call 29; refine HSP.out.mono ?_; rintro e w5 ⟨rfl, q, rfl⟩; unfold tup))
                  go_ret
                  exact ⟨rfl, below_drewN (hb3.trans ((hbq.mono hws).trans (f4.mono (by omega)))) _⟩

theorem walk (a0 : ByteArray) (a1 : Option Addr) (len1 cap1 : Nat) (z1 : List Int) (a2 : ByteArray) (w : World) (w0 : a0.size ≤ maxLen) (w1 : IsRow .u8 w a1 len1 cap1 z1) (w2 : a2.size ≤ maxLen) :
    Calls Try.prog 9 #[.string a0, .slice a1 len1 cap1, .string a2] w fun e w' => e = .returned (.bool true) ∧ Below w.heap.size w w' := by
  by_cases h : a0.size ≤ 4096 ∧ len1 ≤ 4096 ∧ a2.size ≤ 4096
  · exact walk_main a0 a1 len1 cap1 z1 a2 w h.1 h.2.1 h.2.2 w1
  · have hl : len1 ≤ maxLen := by
      rcases w1 with ⟨_, rfl, _, _⟩ | ⟨x, _, hl, hm, _⟩
      · exact Nat.zero_le _
      · exact Nat.le_trans hl hm
    exact walk_big a0 a1 len1 cap1 a2 w w0 hl w2 h

/-! ### THE ROW's STEP: WRITTEN OUT: LEAVE IT -/
set_option maxRecDepth 100000 in
theorem lifted (os : Os) (started : os.Started) (H : Type) (enc : TypeId × Value → H) :
    ReturnsInHanded {} Try.checked os 9 .any (Rows.fnSpanTakesWholeBackslashRunsSpec.pre6 enc Try.prog Try.f9 Rows.fnSpanTakesWholeBackslashRunsRow.domain false) (Rows.fnSpanTakesWholeBackslashRunsSpec.post enc Try.prog Try.f9 false true false false) := by
  refine returnsInHanded_of_change (C := Try.checked) own started (by kernel_rfl) Try.func9
    (ChangeSpec.witness6 (enc := enc) (C := Try.checked) false ⟨#[], #[.string ByteArray.empty, .slice none 0 0, .string ByteArray.empty], []⟩ 8 (by kernel_rfl) (by kernel_rfl) (by kernel_rfl) (by kernel_rfl)) ?_
  intro W base args ds gs before hval0 hW hcnd _
  have hval : ∀ (j : Nat) t v, Try.f9.params[j]? = some t → args[j]? = some v → Value.okWide Try.prog W .any base t v := hval0
  have hW' := hW
  obtain ⟨p, q, hA0, hV, rfl, hfz, hnd⟩ := hW
  have hA : DataW.TrodAll enc Try.prog W 0 (fun _ => true) true Try.f9.params.toList args.toList ds p := hA0
  rw [Try.params9] at hA hval
  obtain ⟨v0, vs0, d0, ds0, p0, q0, hargs, rfl, rfl, h0, r0⟩ := trodAll_cons hA
  obtain ⟨v1, vs1, d1, ds1, p1, q1, rfl, rfl, rfl, h1, r1⟩ := trodAll_cons r0
  obtain ⟨v2, vs2, d2, ds2, p2, q2, rfl, rfl, rfl, h2, r2⟩ := trodAll_cons r1
  obtain ⟨rfl, rfl, rfl⟩ := trodAll_nil r2
  obtain rfl : args = #[v0, v1, v2] := by cases args; simp_all
  obtain ⟨rfl, rfl⟩ := trodVars_none hV
  obtain ⟨a0, rfl, rfl, rfl, w0⟩ := open_string Try.underlying9 (hval 0 9 v0 rfl rfl) h0
  obtain ⟨a1, len1, cap1, rfl⟩ := okWide_slice Try.underlying42 (hval 1 42 v1 rfl rfl)
  have k1 := h1
  have lt1 : ∀ x ∈ p1, x.block < W.heap.size := by obtain ⟨m, hm⟩ := k1; exact DataW.trod_lt m _ _ _ hm
  obtain ⟨z1, w1⟩ : ∃ zs, IsRow .u8 W a1 len1 cap1 zs := by
    obtain ⟨fuel, hf⟩ := h1
    rcases open_ints Try.underlying42 Try.underlying5 (by kernel_rfl) hf with ⟨hcs, _⟩ | ⟨x, l, c, zs, hcs, _, hl, hm, hz, _, hcell, hwz⟩
    · simp [Value.cells] at hcs
      obtain ⟨rfl, rfl, rfl⟩ := hcs
      exact ⟨[], .inl ⟨rfl, rfl, rfl, rfl⟩⟩
    · simp [Value.cells] at hcs
      obtain ⟨rfl, rfl, rfl⟩ := hcs
      exact ⟨zs, .inr ⟨_, rfl, hl, hm, by simpa using hz, hcell, hwz⟩⟩
  obtain ⟨a2, rfl, rfl, rfl, w2⟩ := open_string Try.underlying9 (hval 2 9 v2 rfl rfl) h2
  clear hA0 hval0
  refine (walk a0 a1 len1 cap1 z1 a2 W w0 w1 w2).mono fun e W' ⟨he, bel⟩ => ?_
  subst he
  exact ⟨_, rfl, _, _, _, [], _, [], hW', trodAll_mk1 (shut_bool Try.underlying4 _), (trodAll_cons_mk (shut_string Try.underlying9 w0) (trodAll_cons_mk (Below.trod laidOut (by kernel_rfl) (of_decide_eq_true (by kernel_rfl)) k1 bel lt1) (trodAll_cons_mk (shut_string Try.underlying9 w2) trodAll_mk0))), rfl, bel.frame _, fun h => by cases h⟩

theorem over : Rows.fnSpanTakesWholeBackslashRunsRow.holds Try.pinned (OpenSpec.ofChange Rows.fnSpanTakesWholeBackslashRunsSpec) :=
  OpenClaim.holds_of_wide 9 Try.f9 rfl rfl rfl rfl rfl rfl rfl ⟨rfl, rfl, rfl, rfl, rfl⟩ rfl rfl rfl rfl rfl (by kernel_rfl) Try.func9 (by kernel_rfl)
    (of_decide_eq_true (by kernel_rfl)) (by unfold Func.isWrapper; first | (rw [if_pos (by decide +kernel)]; kernel_rfl) | (rw [if_neg (by decide +kernel)]; exact ⟨rfl, rfl⟩))
    (fun os started H enc _ => lifted os started H enc)

/-- ████ THE STATEMENT ████ -/
theorem proved : Rows.FnSpanTakesWholeBackslashRunsSaid := over
#print axioms proved
end Go.Proofs.Qxb6001664a.fnSpanTakesWholeBackslashRuns
