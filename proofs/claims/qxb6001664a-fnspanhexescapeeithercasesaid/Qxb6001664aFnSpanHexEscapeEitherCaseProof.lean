/- 'Rows.FnSpanHexEscapeEitherCaseSaid': the law's walk for each of the three letters; then the row's step (closed limb by limb, over 'Below'). -/
import Derived.Test.Qxb6001664aSpanBytes
import Derived.Test.Qxb6001664aSpanHex
import Derived.Laws.BitsAllLaws
import Derived.Laws.OwnMore
namespace Go.Proofs.Qxb6001664a.fnSpanHexEscapeEitherCase
open Go.ChangeShapes Go.WideShapes Go.ChangeAt Go.RowKit
open Go.ChangeMaps (open_string shut_string)
open Go.Proofs.Qxb6001664a.SpanPlain
open Go.Proofs.Qxb6001664a.SpanCalls
open Go.Proofs.Qxb6001664a.SpanBytes
open Go.Proofs.Qxb6001664a.SpanHex
set_option linter.unusedVariables false

theorem own : ownKnob Try.prog.godebug = none := by kernel_rfl

theorem OwnB.grown {w w' : World} {g g2 cap : Nat} {xs : List UInt8} (h : OwnB w g2 cap xs) (hg : w.grownBy w' (some g)) (hne : g2 ≠ g) : OwnB w' g2 cap xs :=
  World.ownsRow.kept h hg (Or.inr (by show some g2 ≠ some g; simpa using hne))

/-- 't = append(t, x)' within the capacity; every other block stays. -/
theorem wpList_pushC {ops : Array Oper} {rest : List Oper} {o : Oper} {a : Act} {Q : Exit → Act → World → Prop} (W : World)
    (hg : o.guard = none) (s x : Operand) (hop : o.op = Op.call { callee := Callee.builtin Builtin.append, args := #[s, x], argTypes := #[42, 42] })
    (g n cap : Nat) (xs : List UInt8) (u : UInt8) (v : Int) (hv : v = (u.toNat : Int)) (hs : a.eval s = .slice (some ⟨g, 0, none⟩) n cap) (hx : a.eval x = .slice (some ⟨W.heap.size, 0, none⟩) 1 1)
    (hn : xs.length = n) (hO : OwnB W g cap xs) (hfit : n + 1 ≤ cap)
    (hK : ∀ w', OwnB w' g cap (xs ++ [u]) → W.grownBy w' (some g) → wpList Try.prog ops Q rest (a.put o.dst (.slice (some ⟨g, 0, none⟩) (n + 1) cap)) w') :
    wpList Try.prog ops Q (o :: rest) a (W.alloc (.cells #[.int .u8 v] 5)) := by
  subst hn
  subst hv
  obtain ⟨i0, hi, hz0, hz1, hz2⟩ := info_parts info5
  refine wpList_append_fits (P := Try.prog) _ hg s x 42 hop g 5 i0 1 Try.underlying42 hi hz1 g xs.length cap (bv xs) hs (hO.alloc _) ⟨W.heap.size, 0, none⟩ 1 1 (bv [u]) hx rfl ?_ ?_ hfit ?_
  · intro j v hj
    match j, hj with
    | 0, hj =>
      simp [bv] at hj
      subst hj
      simp [Addr.add]
  · intro v hv
    simp [bv] at hv
    subst hv
    rfl
  · intro w' hown hgrow
    refine hK w' ?_ ?_
    · unfold OwnB
      rw [bv_app]
      simpa using hown
    · refine ⟨hgrow.os, hgrow.tape, hgrow.output, ?_, fun k hk hne => ?_⟩
      · have := hgrow.size
        simp at this
        omega
      · rw [hgrow.block k (by simp; omega) hne]
        exact Below.heap_alloc _ _ _ hk

set_option maxHeartbeats 400000 in
theorem zzbytes (a b c : Int) (u : ByteArray) (w : World) (h2 : u.size ≤ maxLen) :
    Calls Try.prog 31 #[.int .u8 a, .int .u32 b, .int .u8 c, .string u] w fun e w' => e = .returned (.bool (decide (u.size ≤ 1048576))) ∧ w = w' := by
  unfold maxLen at h2
  by_cases h : u.size ≤ 1048576
  · go_enter Try.func31, Try.ntmps31
    go_wp2
    go_ret
    exact ⟨by simp [h], rfl⟩
  · go_enter Try.func31, Try.ntmps31
    go_wp2
    go_ret
    exact ⟨by simp [h], rfl⟩

/-- 'string(b)' of a slice of the call's own. -/
theorem conv_own {w : World} {g cap n : Nat} {xs : List UInt8} (h : OwnB w g cap xs) (hn : xs.length = n) :
    (convert 42 9 (.slice (some ⟨g, 0, none⟩) n cap)).run Try.prog w = .ok (.string ⟨xs.toArray⟩) w := by
  subst hn
  have hsz : (ByteArray.mk xs.toArray).size = xs.length := by
    show xs.toArray.size = _
    simp
  have := Lib.run_convert_whole (P := Try.prog) w 42 5 9 Try.underlying42 Try.underlying5 Try.underlying9 g 0 ⟨xs.toArray⟩ h.text cap
  rw [hsz] at this
  exact this

/-- A store into a slice of bytes of the call's own. -/
theorem OwnB.set {w : World} {g cap : Nat} {xs : List UInt8} (h : OwnB w g cap xs) (j : Nat) (v : UInt8) : OwnB (w.setCell ⟨g, j, none⟩ (.int .u8 (v.toNat : Int))) g cap (xs.set j v) := by
  have h1 := (World.ownsRow.stored h j (.int .u8 (v.toNat : Int))).1
  unfold OwnB
  have e : bv (xs.set j v) = (bv xs).set j (.int .u8 (v.toNat : Int)) := by simp [bv, List.map_set]
  rw [e, List.length_set]
  exact h1

theorem OwnB.free {w : World} {g cap : Nat} {xs : List UInt8} (h : OwnB w g cap xs) (j : Nat) : w.frozen? ⟨g, j, none⟩ = false := World.ownsRow.frozenAt h j

theorem mk_size (xs : List UInt8) : (ByteArray.mk xs.toArray).size = xs.length := by
  show xs.toArray.size = _
  simp

/-- span over a text of the call's own. -/
theorem span_own {w : World} {sp g cap n : Nat} {es ts : List UInt8} {r : Int × Int × Bool} (f1 : w.cell? ⟨sp, 0, none⟩ = some (.string ⟨es.toArray⟩)) (f2 : w.cell? ⟨sp, 1, none⟩ = some (.bool true)) (hO : OwnB w g cap ts) (hn : ts.length = n) (hle : es.length ≤ n) (hb : n ≤ 1099511627776) (hr : spanAll true es ts = r) :
    Calls Try.prog 29 #[.pointer (some ⟨sp, 0, none⟩), .slice (some ⟨g, 0, none⟩) n cap] w fun e w' => e = .returned (tup r) ∧ ∃ q, w' = w.drewN q := by
  subst hn
  have hc := hO.le
  have h := zzspan (spans_true ⟨es.toArray⟩ ⟨ts.toArray⟩ sp g cap (by rw [mk_size, mk_size]; exact hle) (by rw [mk_size]; exact hb) (by rw [mk_size]; exact hc) w hO.text f1 f2)
  rw [mk_size] at h
  have e : spanAll true (L ⟨es.toArray⟩) (L ⟨ts.toArray⟩) = r := by
    rw [← hr]
  rw [e] at h
  exact h

theorem clone_own {w : World} {g cap n : Nat} {ts : List UInt8} (hO : OwnB w g cap ts) (hn : ts.length = n) (hb : n ≤ 1099511627776) :
    Calls Try.prog 28 #[.slice (some ⟨g, 0, none⟩) n cap] w fun e w' => e = .returned (.slice (some ⟨w.heap.size, 0, none⟩) n n) ∧ OwnB w' w.heap.size n ts ∧ Below w.heap.size w w' := by
  subst hn
  exact clone_some ⟨g, 0, none⟩ ts cap w hb fun i hi => by rw [add0]; exact hO.cell i hi

def upD (d : Nat) : UInt8 := UInt8.ofNat (55 + d)

theorem nib (X : Int) (h0 : 0 ≤ X) (h1 : X ≤ 4294967295) : ∃ d : Nat, bits .and .u32 X 15 = (d : Int) ∧ d < 16 := by
  refine ⟨X.toNat &&& 15, ?_, ?_⟩
  · have := u32_and X 15 h0 (by omega) (by omega) (by omega)
    rw [this]
    rfl
  · have : X.toNat &&& 15 ≤ 15 := Nat.and_le_right
    omega

theorem shr_bd (X : Int) (n : Nat) (h0 : 0 ≤ X) (h1 : X ≤ 4294967295) : 0 ≤ X / 2 ^ n ∧ X / 2 ^ n ≤ 4294967295 := by
  have hp : (0 : Int) < 2 ^ n := Int.pow_pos (by omega)
  refine ⟨Int.ediv_nonneg h0 (by omega), ?_⟩
  exact Int.le_trans (Int.ediv_le_self _ h0) h1

set_option maxRecDepth 100000 in
set_option maxHeartbeats 2000000 in
theorem walk_x (a0 a1 a2 : Int) (u : ByteArray) (w : World) (b0 : 0 ≤ a0 ∧ a0 ≤ 255) (b1 : 0 ≤ a1 ∧ a1 ≤ 4294967295) (b2 : 0 ≤ a2 ∧ a2 ≤ 255) (h3 : u.size ≤ 65536) (hk0 : (a0 % 3 == 0) = true) :
    Calls Try.prog 10 #[.int .u8 a0, .int .u32 a1, .int .u8 a2, .string u] w fun e w' => e = .returned (.bool true) ∧ Below w.heap.size w w' := by
  have HZ : Hid (∀ w, Calls Try.prog 31 #[.int .u8 a0, .int .u32 a1, .int .u8 a2, .string u] w fun e w' => e = .returned (.bool true) ∧ w = w') := fun w => (zzbytes a0 a1 a2 u w (by unfold maxLen; omega)).mono (fun e w' ⟨he, hw⟩ => ⟨by rw [he]; simp; omega, hw⟩)
  have e1 : decide (65536 < (u.size : Int)) = false := by simp; omega
  obtain ⟨i0, hi0, hz0, hz1, hz2⟩ := info_parts info5
  have HI : Hid (Try.prog.info? 5 = some i0) := hi0
  clear hi0
  obtain ⟨b00, b01⟩ := b0
  obtain ⟨b10, b11⟩ := b1
  obtain ⟨b20, b21⟩ := b2
  go_enter Try.func10, Try.ntmps10
  go_wp2_with (first
    | (go_at_call 31; refine (HZ.out _).mono ?_; rintro e w' ⟨rfl, rfl⟩)
    | (go_at_call 32; go_in) | (go_at_call 39; go_in)
    | (at_make; refine wpList_make_own _ rfl _ (.tmp 55) 42 rfl w.heap.size 5 i0 (.int .u8 0) 1 Try.underlying42 HI.out hz0 hz1 .i64 .i64 _ 4 rfl rfl ?m1 ?m2 ?m3 (Nat.le_refl _) ?_))
  case m1 => rfl
  case m2 => rw [hz2]; omega
  case m3 => unfold maxLen; omega
  intro w1 hown hgrow
  have HA1 : Hid (OwnB w1 w.heap.size 4 []) := hown
  have hb1 : Below w.heap.size w w1 := (Below.refl _ _).grown hgrow (Nat.le_refl _) (by simp)
  have hG : w.heap.size < w1.heap.size := HA1.out.lt
  clear hown hgrow HZ
  go_wp2_with (at_make; refine wpList_make_own _ rfl _ (.tmp 61) 42 rfl w1.heap.size 5 i0 (.int .u8 0) 1 Try.underlying42 HI.out hz0 hz1 .i64 .i64 _ (4 + u.size) rfl rfl ?m1 ?m2 ?m3 (Nat.le_refl _) ?_)
  case m1 => omega
  case m2 => rw [hz2]; omega
  case m3 => unfold maxLen; omega
  intro w2 hown hgrow
  have HA2 : Hid (OwnB w2 w.heap.size 4 []) := HA1.out.below ((Below.refl _ _).grown hgrow (Nat.le_refl _) (by simp)) hG
  have HB2 : Hid (OwnB w2 w1.heap.size (4 + u.size) []) := hown
  have hb2 : Below w.heap.size w w2 := hb1.grown hgrow (by omega) (by simp)
  clear hown hgrow HA1 hb1
  generalize w1.heap.size = G at *
  clear w1
  go_wp2_with (at_builtin; refine wpList_pushC _ rfl (.tmp 63) (.tmp 64) rfl w.heap.size 0 4 [] 92 92 rfl rfl rfl rfl HA2.out (by omega) ?_)
  intro w3 hO3 hg3
  have HA3 : Hid (OwnB w3 w.heap.size 4 [92]) := hO3
  have HB3 : Hid (OwnB w3 G (4 + u.size) []) := OwnB.grown HB2.out hg3 (by omega)
  have hb3 : Below w.heap.size w w3 := hb2.grown hg3 hb2.size (fun k hk => by injection hk with hk; omega)
  clear hO3 hg3 HA2 HB2 hb2
  go_wp2_with (at_builtin; refine wpList_pushC _ rfl (.tmp 66) (.tmp 68) rfl w.heap.size 1 4 [92] 120 120 rfl rfl rfl rfl HA3.out (by omega) ?_)
  intro w4 hO3 hg3
  have HA4 : Hid (OwnB w4 w.heap.size 4 [92, 120]) := hO3
  have HB4 : Hid (OwnB w4 G (4 + u.size) []) := OwnB.grown HB3.out hg3 (by omega)
  have hb4 : Below w.heap.size w w4 := hb3.grown hg3 hb3.size (fun k hk => by injection hk with hk; omega)
  clear hO3 hg3 HA3 HB3 hb3
  go_wp2_with (at_builtin; refine wpList_pushC _ rfl (.tmp 70) (.tmp 71) rfl G 0 (4 + u.size) [] 92 92 rfl rfl rfl rfl HB4.out (by omega) ?_)
  intro w5 hO3 hg3
  have HB5 : Hid (OwnB w5 G (4 + u.size) [92]) := hO3
  have HA5 : Hid (OwnB w5 w.heap.size 4 [92, 120]) := OwnB.grown HA4.out hg3 (by omega)
  have hb5 : Below w.heap.size w w5 := hb4.grown hg3 hb4.size (fun k hk => by injection hk with hk; omega)
  clear hO3 hg3 HA4 HB4 hb4
  go_wp2_with (at_builtin; refine wpList_pushC _ rfl (.tmp 73) (.tmp 75) rfl G 1 (4 + u.size) [92] 120 120 rfl rfl rfl rfl HB5.out (by omega) ?_)
  intro w6 hO3 hg3
  have HB6 : Hid (OwnB w6 G (4 + u.size) [92, 120]) := hO3
  have HA6 : Hid (OwnB w6 w.heap.size 4 [92, 120]) := OwnB.grown HA5.out hg3 (by omega)
  have hb6 : Below w.heap.size w w6 := hb5.grown hg3 hb5.size (fun k hk => by injection hk with hk; omega)
  clear hO3 hg3 HA5 HB5 hb5
  go_wp2_with fail
  go_loopw [12, 13, 14] (fun ve vt vi wr => ∃ (i : Nat) (cs xs : List UInt8), i ≤ 2 ∧ cs.length = i ∧ Hid (Pairs cs xs) ∧ ve = .slice (some ⟨w.heap.size, 0, none⟩) (2 + i) 4 ∧ vt = .slice (some ⟨G, 0, none⟩) (2 + i) (4 + u.size) ∧ vi = .int .i64 i ∧ OwnB wr w.heap.size 4 (92 :: 120 :: cs) ∧ OwnB wr G (4 + u.size) (92 :: 120 :: xs) ∧ Below w.heap.size w wr) (fun _ _ vi _ => 2 - (intOf vi).toNat)
  case atStart => exact ⟨0, [], [], by omega, rfl, True.intro, rfl, rfl, rfl, HA6.out, HB6.out, hb6⟩
  case round =>
    clear HA6 HB6 hb6
    obtain ⟨i, cs, xs, hi, hcs, HP, rfl, rfl, rfl, hOA, hOB, hbr⟩ := hrel
    have HA : Hid (OwnB wr w.heap.size 4 (92 :: 120 :: cs)) := hOA
    have HB : Hid (OwnB wr G (4 + u.size) (92 :: 120 :: xs)) := hOB
    have HC : Hid (cs.length = i) := hcs
    clear hOA hOB hcs
    by_cases hlt : i < 2
    · have hlt' : (i : Int) < 8 := by omega
      obtain ⟨d, hD, hd⟩ := nib (a1 / 2 ^ (4 * i)) (shr_bd a1 _ b10 b11).1 (shr_bd a1 _ b10 b11).2
      have hd' : (d : Int) < 16 := by omega
      have HXL : Hid (xs.length = i) := by
        show _ = _
        rw [← pairs_len HP.out]; exact HC.out
      cases hub : (bits .and .u8 (a2 / 2 ^ i) 1 == 1)
      · by_cases h10 : 10 ≤ d
        · have HV : Hid ((97 : Int) + (d : Int) - 10 = ((lowD d).toNat : Int)) := by
            show _ = _
            rw [lowD_hi d h10 hd]; omega
          go_wp2_with (at_builtin; refine wpList_pushC _ rfl (.tmp 96) (.tmp 98) rfl w.heap.size (2 + i) 4 (92 :: 120 :: cs) (lowD d) _ HV.out rfl rfl (by simp [HC.out]; omega) HA.out (by omega) ?_)
          intro w7 hO7 hg7
          have HA7 : Hid (OwnB w7 w.heap.size 4 (92 :: 120 :: (cs ++ [lowD d]))) := hO7
          have HB7 : Hid (OwnB w7 G (4 + u.size) (92 :: 120 :: xs)) := OwnB.grown HB.out hg7 (by omega)
          have hb7 : Below w.heap.size w w7 := hbr.grown hg7 hbr.size (fun k hk => by injection hk with hk; omega)
          clear hO7 hg7 HA HB hbr
          go_wp2_with (at_builtin; refine wpList_pushC _ rfl (.tmp 113) (.tmp 115) rfl G (2 + i) (4 + u.size) (92 :: 120 :: xs) (lowD d) _ HV.out rfl rfl (by simp [HXL.out]; omega) HB7.out (by omega) ?_)
          intro w8 hO8 hg8
          have HB8 : Hid (OwnB w8 G (4 + u.size) (92 :: 120 :: (xs ++ [(lowD d)]))) := hO8
          have HA8 : Hid (OwnB w8 w.heap.size 4 (92 :: 120 :: (cs ++ [lowD d]))) := OwnB.grown HA7.out hg8 (by omega)
          have hb8 : Below w.heap.size w w8 := hb7.grown hg8 hb7.size (fun k hk => by injection hk with hk; omega)
          clear hO8 hg8 HA7 HB7 hb7
          go_wp2
          go_roundw
          case rel => exact ⟨i + 1, cs ++ [lowD d], xs ++ [(lowD d)], by omega, by simp [HC.out], pairs_snoc HP.out (pair_same d hd), rfl, rfl, by go_num, HA8.out, HB8.out, hb8⟩
          case measure => simp [intOf]; omega
        · have HV : Hid ((48 : Int) + (d : Int) = ((lowD d).toNat : Int)) := by
            show _ = _
            rw [lowD_lo d (by omega)]
          go_wp2_with (at_builtin; refine wpList_pushC _ rfl (.tmp 96) (.tmp 98) rfl w.heap.size (2 + i) 4 (92 :: 120 :: cs) (lowD d) _ HV.out rfl rfl (by simp [HC.out]; omega) HA.out (by omega) ?_)
          intro w7 hO7 hg7
          have HA7 : Hid (OwnB w7 w.heap.size 4 (92 :: 120 :: (cs ++ [lowD d]))) := hO7
          have HB7 : Hid (OwnB w7 G (4 + u.size) (92 :: 120 :: xs)) := OwnB.grown HB.out hg7 (by omega)
          have hb7 : Below w.heap.size w w7 := hbr.grown hg7 hbr.size (fun k hk => by injection hk with hk; omega)
          clear hO7 hg7 HA HB hbr
          go_wp2_with (at_builtin; refine wpList_pushC _ rfl (.tmp 113) (.tmp 115) rfl G (2 + i) (4 + u.size) (92 :: 120 :: xs) (lowD d) _ HV.out rfl rfl (by simp [HXL.out]; omega) HB7.out (by omega) ?_)
          intro w8 hO8 hg8
          have HB8 : Hid (OwnB w8 G (4 + u.size) (92 :: 120 :: (xs ++ [(lowD d)]))) := hO8
          have HA8 : Hid (OwnB w8 w.heap.size 4 (92 :: 120 :: (cs ++ [lowD d]))) := OwnB.grown HA7.out hg8 (by omega)
          have hb8 : Below w.heap.size w w8 := hb7.grown hg8 hb7.size (fun k hk => by injection hk with hk; omega)
          clear hO8 hg8 HA7 HB7 hb7
          go_wp2
          go_roundw
          case rel => exact ⟨i + 1, cs ++ [lowD d], xs ++ [(lowD d)], by omega, by simp [HC.out], pairs_snoc HP.out (pair_same d hd), rfl, rfl, by go_num, HA8.out, HB8.out, hb8⟩
          case measure => simp [intOf]; omega
      · by_cases h10 : 10 ≤ d
        · have HV : Hid ((97 : Int) + (d : Int) - 10 = ((lowD d).toNat : Int)) := by
            show _ = _
            rw [lowD_hi d h10 hd]; omega
          have HW : Hid ((97 : Int) + (d : Int) - 10 - 97 + 65 = ((upD d).toNat : Int)) := by
            show _ = ((UInt8.ofNat (55 + d)).toNat : Int)
            simp; omega
          go_wp2_with (at_builtin; refine wpList_pushC _ rfl (.tmp 96) (.tmp 98) rfl w.heap.size (2 + i) 4 (92 :: 120 :: cs) (lowD d) _ HV.out rfl rfl (by simp [HC.out]; omega) HA.out (by omega) ?_)
          intro w7 hO7 hg7
          have HA7 : Hid (OwnB w7 w.heap.size 4 (92 :: 120 :: (cs ++ [lowD d]))) := hO7
          have HB7 : Hid (OwnB w7 G (4 + u.size) (92 :: 120 :: xs)) := OwnB.grown HB.out hg7 (by omega)
          have hb7 : Below w.heap.size w w7 := hbr.grown hg7 hbr.size (fun k hk => by injection hk with hk; omega)
          clear hO7 hg7 HA HB hbr
          go_wp2_with (at_builtin; refine wpList_pushC _ rfl (.tmp 113) (.tmp 115) rfl G (2 + i) (4 + u.size) (92 :: 120 :: xs) (upD d) _ HW.out rfl rfl (by simp [HXL.out]; omega) HB7.out (by omega) ?_)
          intro w8 hO8 hg8
          have HB8 : Hid (OwnB w8 G (4 + u.size) (92 :: 120 :: (xs ++ [(upD d)]))) := hO8
          have HA8 : Hid (OwnB w8 w.heap.size 4 (92 :: 120 :: (cs ++ [lowD d]))) := OwnB.grown HA7.out hg8 (by omega)
          have hb8 : Below w.heap.size w w8 := hb7.grown hg8 hb7.size (fun k hk => by injection hk with hk; omega)
          clear hO8 hg8 HA7 HB7 hb7
          go_wp2
          go_roundw
          case rel => exact ⟨i + 1, cs ++ [lowD d], xs ++ [(upD d)], by omega, by simp [HC.out], pairs_snoc HP.out (pair_upper d hd h10), rfl, rfl, by go_num, HA8.out, HB8.out, hb8⟩
          case measure => simp [intOf]; omega
        · have HV : Hid ((48 : Int) + (d : Int) = ((lowD d).toNat : Int)) := by
            show _ = _
            rw [lowD_lo d (by omega)]
          go_wp2_with (at_builtin; refine wpList_pushC _ rfl (.tmp 96) (.tmp 98) rfl w.heap.size (2 + i) 4 (92 :: 120 :: cs) (lowD d) _ HV.out rfl rfl (by simp [HC.out]; omega) HA.out (by omega) ?_)
          intro w7 hO7 hg7
          have HA7 : Hid (OwnB w7 w.heap.size 4 (92 :: 120 :: (cs ++ [lowD d]))) := hO7
          have HB7 : Hid (OwnB w7 G (4 + u.size) (92 :: 120 :: xs)) := OwnB.grown HB.out hg7 (by omega)
          have hb7 : Below w.heap.size w w7 := hbr.grown hg7 hbr.size (fun k hk => by injection hk with hk; omega)
          clear hO7 hg7 HA HB hbr
          go_wp2_with (at_builtin; refine wpList_pushC _ rfl (.tmp 113) (.tmp 115) rfl G (2 + i) (4 + u.size) (92 :: 120 :: xs) (lowD d) _ HV.out rfl rfl (by simp [HXL.out]; omega) HB7.out (by omega) ?_)
          intro w8 hO8 hg8
          have HB8 : Hid (OwnB w8 G (4 + u.size) (92 :: 120 :: (xs ++ [(lowD d)]))) := hO8
          have HA8 : Hid (OwnB w8 w.heap.size 4 (92 :: 120 :: (cs ++ [lowD d]))) := OwnB.grown HA7.out hg8 (by omega)
          have hb8 : Below w.heap.size w w8 := hb7.grown hg8 hb7.size (fun k hk => by injection hk with hk; omega)
          clear hO8 hg8 HA7 HB7 hb7
          go_wp2
          go_roundw
          case rel => exact ⟨i + 1, cs ++ [lowD d], xs ++ [(lowD d)], by omega, by simp [HC.out], pairs_snoc HP.out (pair_same d hd), rfl, rfl, by go_num, HA8.out, HB8.out, hb8⟩
          case measure => simp [intOf]; omega
    · have HC2 : Hid (cs.length = 2) := by
        show _ = _
        rw [HC.out]; omega
      have HXL : Hid (xs.length = 2) := by
        show _ = _
        rw [← pairs_len HP.out, HC.out]; omega
      have h4 : 2 + i = 4 := by omega
      have hi2 : (i : Int) = 2 := by omega
      rw [h4, hi2]
      clear h4 hi2 HC
      go_wp2_with fail
      go_loopw [13, 17] (fun vt vm wq => ∃ m : Nat, m ≤ u.size ∧ vm = .int .i64 m ∧ vt = .slice (some ⟨G, 0, none⟩) (4 + m) (4 + u.size) ∧ OwnB wq w.heap.size 4 (92 :: 120 :: cs) ∧ OwnB wq G (4 + u.size) (92 :: 120 :: (xs ++ (L u).take m)) ∧ Below w.heap.size w wq) (fun _ vm _ => u.size - (intOf vm).toNat)
      case atStart => exact ⟨0, by omega, rfl, rfl, HA.out, by simpa using HB.out, hbr⟩
      case round =>
        clear HA HB hbr
        obtain ⟨m, hm, rfl, rfl, hOA, hOB, hbr⟩ := hrel
        have HA : Hid (OwnB wr w.heap.size 4 (92 :: 120 :: cs)) := hOA
        have HB : Hid (OwnB wr G (4 + u.size) (92 :: 120 :: (xs ++ (L u).take m))) := hOB
        clear hOA hOB
        by_cases hlq : m < u.size
        · go_wp2_with (at_builtin; refine wpList_pushC _ rfl (.tmp 123) (.tmp 127) rfl G (4 + m) (4 + u.size) (92 :: 120 :: (xs ++ (L u).take m)) u[m] _ rfl rfl rfl (by simp [HXL.out]; omega) HB.out (by omega) ?_)
          intro w7 hO7 hg7
          have HB7 : Hid (OwnB w7 G (4 + u.size) (92 :: 120 :: (xs ++ (L u).take (m + 1)))) := by
            rw [List.take_succ_eq_append_getElem (by rw [L_len]; exact hlq), L_at u m hlq]
            have e : 92 :: 120 :: (xs ++ ((L u).take m ++ [u[m]])) = (92 :: 120 :: (xs ++ (L u).take m)) ++ [u[m]] := by simp
            rw [e]
            first | exact hO7 | (show OwnB _ _ _ _; simpa using hO7)
          have HA7 : Hid (OwnB w7 w.heap.size 4 (92 :: 120 :: cs)) := OwnB.grown HA.out hg7 (by omega)
          have hb7 : Below w.heap.size w w7 := hbr.grown hg7 hbr.size (fun k hk => by injection hk with hk; omega)
          clear hO7 hg7 HA HB hbr
          go_wp2
          go_roundw
          case rel => exact ⟨m + 1, by omega, by go_num, rfl, HA7.out, HB7.out, hb7⟩
          case measure => simp [intOf]; omega
        · have HB2 : Hid (OwnB wr G (4 + u.size) (92 :: 120 :: (xs ++ L u))) := by
            have := HB.out
            rw [List.take_of_length_le (by rw [L_len]; omega)] at this
            exact this
          have hmu : 4 + m = 4 + u.size := by omega
          rw [hmu]
          clear hmu HB
          have hGl : G < wr.heap.size := HB2.out.lt
          have HCV : Hid ((convert 42 9 (.slice (some ⟨w.heap.size, 0, none⟩) 4 4)).run Try.prog wr = .ok (.string ⟨(92 :: 120 :: cs).toArray⟩) wr) := conv_own HA.out (by simp [HC2.out])
          have hcv := HCV.out
          have HXS : Hid ((xs ++ L u).length = 2 + u.size) := by
            show _ = _
            rw [List.length_append, HXL.out, L_len]
          have HY : Hid (spanAll true (92 :: 120 :: cs) (92 :: 120 :: (xs ++ L u)) = (4, 4, false)) := by
            have := hex_yes 120 (by decide) cs xs (L u) HP.out
            rw [HC2.out] at this
            exact this
          have HNO : Hid (spanAll true (92 :: 120 :: cs) (92 :: 88 :: (xs ++ L u)) = (-1, -1, false)) := hex_no 120 88 (by decide) (by decide) (by decide) cs (xs ++ L u)
          go_wp2_with fail
          refine (newSpelling _ _ _).mono ?_
          rintro e w4 ⟨rfl, f1, f2, f3, f4⟩
          have HB4 : Hid (OwnB w4 G (4 + u.size) (92 :: 120 :: (xs ++ L u))) := HB2.out.below f4 hGl
          have HF1 : Hid (w4.cell? ⟨wr.heap.size, 0, none⟩ = some (.string ⟨(92 :: 120 :: cs).toArray⟩)) := f1
          have HF2 : Hid (w4.cell? ⟨wr.heap.size, 1, none⟩ = some (.bool true)) := f2
          have hb4 : Below w.heap.size w w4 := hbr.trans (f4.mono hbr.size)
          have hspl : wr.heap.size < w4.heap.size := by omega
          generalize wr.heap.size = sp at *
          clear f1 f2 f3 f4 hcv HCV HA HB2 hbr HP HXL
          go_wp2_with fail
          refine (span_own HF1.out HF2.out HB4.out (by simp only [List.length_cons, HXS.out]; omega) (by simp only [List.length_cons, HC2.out]; omega) (by omega) HY.out).mono ?_
          rintro e w5 ⟨rfl, q, rfl⟩
          unfold tup
          go_wp2_with fail
          refine (clone_own (HB4.out.drewN q) (by simp only [List.length_cons, HXS.out]; omega) (by omega)).mono ?_
          have hds : (w4.drewN q).heap.size = w4.heap.size := rfl
          rw [hds]
          rintro e w6 ⟨rfl, hO6, hb6⟩
          have hc1 : w6.cell? ⟨w4.heap.size, 1, none⟩ = some (.int .u8 120) := hO6.cell 1 (by simp)
          have hf1 : w6.frozen? ⟨w4.heap.size, 1, none⟩ = false := OwnB.free hO6 1
          have HO7 : Hid (OwnB (w6.setCell ⟨w4.heap.size, 1, none⟩ (.int .u8 88)) w4.heap.size (4 + u.size) (92 :: 88 :: (xs ++ L u))) := OwnB.set hO6 1 88
          have hb7 : Below w4.heap.size (w4.drewN q) (w6.setCell ⟨w4.heap.size, 1, none⟩ (.int .u8 88)) := hb6.setCell (Nat.le_refl _) _
          have HF3 : Hid ((w6.setCell ⟨w4.heap.size, 1, none⟩ (.int .u8 88)).cell? ⟨sp, 0, none⟩ = some (.string ⟨(92 :: 120 :: cs).toArray⟩)) := (hb7.cell (p := ⟨sp, 0, none⟩) hspl).trans (by have := HF1.out; simpa using this)
          have HF4 : Hid ((w6.setCell ⟨w4.heap.size, 1, none⟩ (.int .u8 88)).cell? ⟨sp, 1, none⟩ = some (.bool true)) := (hb7.cell (p := ⟨sp, 1, none⟩) hspl).trans (by have := HF2.out; simpa using this)
          have hb8 : Below w.heap.size w (w6.setCell ⟨w4.heap.size, 1, none⟩ (.int .u8 88)) := (below_drewN hb4 q).trans (hb7.mono (by omega))
          clear hO6 hb6 hb7 hds HF1 HF2 HB4 hb4
          go_wp2_with fail
          refine (span_own HF3.out HF4.out HO7.out (by simp only [List.length_cons, HXS.out]; omega) (by simp only [List.length_cons, HC2.out]; omega) (by omega) HNO.out).mono ?_
          rintro e w9 ⟨rfl, q2, rfl⟩
          unfold tup
          go_wp2
          go_ret
          exact ⟨rfl, below_drewN hb8 _⟩

set_option maxRecDepth 100000 in
set_option maxHeartbeats 2000000 in
theorem walk_u (a0 a1 a2 : Int) (u : ByteArray) (w : World) (b0 : 0 ≤ a0 ∧ a0 ≤ 255) (b1 : 0 ≤ a1 ∧ a1 ≤ 4294967295) (b2 : 0 ≤ a2 ∧ a2 ≤ 255) (h3 : u.size ≤ 65536) (hk0 : (a0 % 3 == 0) = false) (hk2 : (a0 % 3 == 2) = false) :
    Calls Try.prog 10 #[.int .u8 a0, .int .u32 a1, .int .u8 a2, .string u] w fun e w' => e = .returned (.bool true) ∧ Below w.heap.size w w' := by
  have HZ : Hid (∀ w, Calls Try.prog 31 #[.int .u8 a0, .int .u32 a1, .int .u8 a2, .string u] w fun e w' => e = .returned (.bool true) ∧ w = w') := fun w => (zzbytes a0 a1 a2 u w (by unfold maxLen; omega)).mono (fun e w' ⟨he, hw⟩ => ⟨by rw [he]; simp; omega, hw⟩)
  have e1 : decide (65536 < (u.size : Int)) = false := by simp; omega
  obtain ⟨i0, hi0, hz0, hz1, hz2⟩ := info_parts info5
  have HI : Hid (Try.prog.info? 5 = some i0) := hi0
  clear hi0
  obtain ⟨b00, b01⟩ := b0
  obtain ⟨b10, b11⟩ := b1
  obtain ⟨b20, b21⟩ := b2
  go_enter Try.func10, Try.ntmps10
  go_wp2_with (first
    | (go_at_call 31; refine (HZ.out _).mono ?_; rintro e w' ⟨rfl, rfl⟩)
    | (go_at_call 32; go_in) | (go_at_call 39; go_in)
    | (at_make; refine wpList_make_own _ rfl _ (.tmp 55) 42 rfl w.heap.size 5 i0 (.int .u8 0) 1 Try.underlying42 HI.out hz0 hz1 .i64 .i64 _ 6 rfl rfl ?m1 ?m2 ?m3 (Nat.le_refl _) ?_))
  case m1 => rfl
  case m2 => rw [hz2]; omega
  case m3 => unfold maxLen; omega
  intro w1 hown hgrow
  have HA1 : Hid (OwnB w1 w.heap.size 6 []) := hown
  have hb1 : Below w.heap.size w w1 := (Below.refl _ _).grown hgrow (Nat.le_refl _) (by simp)
  have hG : w.heap.size < w1.heap.size := HA1.out.lt
  clear hown hgrow HZ
  go_wp2_with (at_make; refine wpList_make_own _ rfl _ (.tmp 61) 42 rfl w1.heap.size 5 i0 (.int .u8 0) 1 Try.underlying42 HI.out hz0 hz1 .i64 .i64 _ (6 + u.size) rfl rfl ?m1 ?m2 ?m3 (Nat.le_refl _) ?_)
  case m1 => omega
  case m2 => rw [hz2]; omega
  case m3 => unfold maxLen; omega
  intro w2 hown hgrow
  have HA2 : Hid (OwnB w2 w.heap.size 6 []) := HA1.out.below ((Below.refl _ _).grown hgrow (Nat.le_refl _) (by simp)) hG
  have HB2 : Hid (OwnB w2 w1.heap.size (6 + u.size) []) := hown
  have hb2 : Below w.heap.size w w2 := hb1.grown hgrow (by omega) (by simp)
  clear hown hgrow HA1 hb1
  generalize w1.heap.size = G at *
  clear w1
  go_wp2_with (at_builtin; refine wpList_pushC _ rfl (.tmp 63) (.tmp 64) rfl w.heap.size 0 6 [] 92 92 rfl rfl rfl rfl HA2.out (by omega) ?_)
  intro w3 hO3 hg3
  have HA3 : Hid (OwnB w3 w.heap.size 6 [92]) := hO3
  have HB3 : Hid (OwnB w3 G (6 + u.size) []) := OwnB.grown HB2.out hg3 (by omega)
  have hb3 : Below w.heap.size w w3 := hb2.grown hg3 hb2.size (fun k hk => by injection hk with hk; omega)
  clear hO3 hg3 HA2 HB2 hb2
  go_wp2_with (at_builtin; refine wpList_pushC _ rfl (.tmp 66) (.tmp 68) rfl w.heap.size 1 6 [92] 117 117 rfl rfl rfl rfl HA3.out (by omega) ?_)
  intro w4 hO3 hg3
  have HA4 : Hid (OwnB w4 w.heap.size 6 [92, 117]) := hO3
  have HB4 : Hid (OwnB w4 G (6 + u.size) []) := OwnB.grown HB3.out hg3 (by omega)
  have hb4 : Below w.heap.size w w4 := hb3.grown hg3 hb3.size (fun k hk => by injection hk with hk; omega)
  clear hO3 hg3 HA3 HB3 hb3
  go_wp2_with (at_builtin; refine wpList_pushC _ rfl (.tmp 70) (.tmp 71) rfl G 0 (6 + u.size) [] 92 92 rfl rfl rfl rfl HB4.out (by omega) ?_)
  intro w5 hO3 hg3
  have HB5 : Hid (OwnB w5 G (6 + u.size) [92]) := hO3
  have HA5 : Hid (OwnB w5 w.heap.size 6 [92, 117]) := OwnB.grown HA4.out hg3 (by omega)
  have hb5 : Below w.heap.size w w5 := hb4.grown hg3 hb4.size (fun k hk => by injection hk with hk; omega)
  clear hO3 hg3 HA4 HB4 hb4
  go_wp2_with (at_builtin; refine wpList_pushC _ rfl (.tmp 73) (.tmp 75) rfl G 1 (6 + u.size) [92] 117 117 rfl rfl rfl rfl HB5.out (by omega) ?_)
  intro w6 hO3 hg3
  have HB6 : Hid (OwnB w6 G (6 + u.size) [92, 117]) := hO3
  have HA6 : Hid (OwnB w6 w.heap.size 6 [92, 117]) := OwnB.grown HA5.out hg3 (by omega)
  have hb6 : Below w.heap.size w w6 := hb5.grown hg3 hb5.size (fun k hk => by injection hk with hk; omega)
  clear hO3 hg3 HA5 HB5 hb5
  go_wp2_with fail
  go_loopw [12, 13, 14] (fun ve vt vi wr => ∃ (i : Nat) (cs xs : List UInt8), i ≤ 4 ∧ cs.length = i ∧ Hid (Pairs cs xs) ∧ ve = .slice (some ⟨w.heap.size, 0, none⟩) (2 + i) 6 ∧ vt = .slice (some ⟨G, 0, none⟩) (2 + i) (6 + u.size) ∧ vi = .int .i64 i ∧ OwnB wr w.heap.size 6 (92 :: 117 :: cs) ∧ OwnB wr G (6 + u.size) (92 :: 117 :: xs) ∧ Below w.heap.size w wr) (fun _ _ vi _ => 4 - (intOf vi).toNat)
  case atStart => exact ⟨0, [], [], by omega, rfl, True.intro, rfl, rfl, rfl, HA6.out, HB6.out, hb6⟩
  case round =>
    clear HA6 HB6 hb6
    obtain ⟨i, cs, xs, hi, hcs, HP, rfl, rfl, rfl, hOA, hOB, hbr⟩ := hrel
    have HA : Hid (OwnB wr w.heap.size 6 (92 :: 117 :: cs)) := hOA
    have HB : Hid (OwnB wr G (6 + u.size) (92 :: 117 :: xs)) := hOB
    have HC : Hid (cs.length = i) := hcs
    clear hOA hOB hcs
    by_cases hlt : i < 4
    · have hlt' : (i : Int) < 8 := by omega
      obtain ⟨d, hD, hd⟩ := nib (a1 / 2 ^ (4 * i)) (shr_bd a1 _ b10 b11).1 (shr_bd a1 _ b10 b11).2
      have hd' : (d : Int) < 16 := by omega
      have HXL : Hid (xs.length = i) := by
        show _ = _
        rw [← pairs_len HP.out]; exact HC.out
      cases hub : (bits .and .u8 (a2 / 2 ^ i) 1 == 1)
      · by_cases h10 : 10 ≤ d
        · have HV : Hid ((97 : Int) + (d : Int) - 10 = ((lowD d).toNat : Int)) := by
            show _ = _
            rw [lowD_hi d h10 hd]; omega
          go_wp2_with (at_builtin; refine wpList_pushC _ rfl (.tmp 96) (.tmp 98) rfl w.heap.size (2 + i) 6 (92 :: 117 :: cs) (lowD d) _ HV.out rfl rfl (by simp [HC.out]; omega) HA.out (by omega) ?_)
          intro w7 hO7 hg7
          have HA7 : Hid (OwnB w7 w.heap.size 6 (92 :: 117 :: (cs ++ [lowD d]))) := hO7
          have HB7 : Hid (OwnB w7 G (6 + u.size) (92 :: 117 :: xs)) := OwnB.grown HB.out hg7 (by omega)
          have hb7 : Below w.heap.size w w7 := hbr.grown hg7 hbr.size (fun k hk => by injection hk with hk; omega)
          clear hO7 hg7 HA HB hbr
          go_wp2_with (at_builtin; refine wpList_pushC _ rfl (.tmp 113) (.tmp 115) rfl G (2 + i) (6 + u.size) (92 :: 117 :: xs) (lowD d) _ HV.out rfl rfl (by simp [HXL.out]; omega) HB7.out (by omega) ?_)
          intro w8 hO8 hg8
          have HB8 : Hid (OwnB w8 G (6 + u.size) (92 :: 117 :: (xs ++ [(lowD d)]))) := hO8
          have HA8 : Hid (OwnB w8 w.heap.size 6 (92 :: 117 :: (cs ++ [lowD d]))) := OwnB.grown HA7.out hg8 (by omega)
          have hb8 : Below w.heap.size w w8 := hb7.grown hg8 hb7.size (fun k hk => by injection hk with hk; omega)
          clear hO8 hg8 HA7 HB7 hb7
          go_wp2
          go_roundw
          case rel => exact ⟨i + 1, cs ++ [lowD d], xs ++ [(lowD d)], by omega, by simp [HC.out], pairs_snoc HP.out (pair_same d hd), rfl, rfl, by go_num, HA8.out, HB8.out, hb8⟩
          case measure => simp [intOf]; omega
        · have HV : Hid ((48 : Int) + (d : Int) = ((lowD d).toNat : Int)) := by
            show _ = _
            rw [lowD_lo d (by omega)]
          go_wp2_with (at_builtin; refine wpList_pushC _ rfl (.tmp 96) (.tmp 98) rfl w.heap.size (2 + i) 6 (92 :: 117 :: cs) (lowD d) _ HV.out rfl rfl (by simp [HC.out]; omega) HA.out (by omega) ?_)
          intro w7 hO7 hg7
          have HA7 : Hid (OwnB w7 w.heap.size 6 (92 :: 117 :: (cs ++ [lowD d]))) := hO7
          have HB7 : Hid (OwnB w7 G (6 + u.size) (92 :: 117 :: xs)) := OwnB.grown HB.out hg7 (by omega)
          have hb7 : Below w.heap.size w w7 := hbr.grown hg7 hbr.size (fun k hk => by injection hk with hk; omega)
          clear hO7 hg7 HA HB hbr
          go_wp2_with (at_builtin; refine wpList_pushC _ rfl (.tmp 113) (.tmp 115) rfl G (2 + i) (6 + u.size) (92 :: 117 :: xs) (lowD d) _ HV.out rfl rfl (by simp [HXL.out]; omega) HB7.out (by omega) ?_)
          intro w8 hO8 hg8
          have HB8 : Hid (OwnB w8 G (6 + u.size) (92 :: 117 :: (xs ++ [(lowD d)]))) := hO8
          have HA8 : Hid (OwnB w8 w.heap.size 6 (92 :: 117 :: (cs ++ [lowD d]))) := OwnB.grown HA7.out hg8 (by omega)
          have hb8 : Below w.heap.size w w8 := hb7.grown hg8 hb7.size (fun k hk => by injection hk with hk; omega)
          clear hO8 hg8 HA7 HB7 hb7
          go_wp2
          go_roundw
          case rel => exact ⟨i + 1, cs ++ [lowD d], xs ++ [(lowD d)], by omega, by simp [HC.out], pairs_snoc HP.out (pair_same d hd), rfl, rfl, by go_num, HA8.out, HB8.out, hb8⟩
          case measure => simp [intOf]; omega
      · by_cases h10 : 10 ≤ d
        · have HV : Hid ((97 : Int) + (d : Int) - 10 = ((lowD d).toNat : Int)) := by
            show _ = _
            rw [lowD_hi d h10 hd]; omega
          have HW : Hid ((97 : Int) + (d : Int) - 10 - 97 + 65 = ((upD d).toNat : Int)) := by
            show _ = ((UInt8.ofNat (55 + d)).toNat : Int)
            simp; omega
          go_wp2_with (at_builtin; refine wpList_pushC _ rfl (.tmp 96) (.tmp 98) rfl w.heap.size (2 + i) 6 (92 :: 117 :: cs) (lowD d) _ HV.out rfl rfl (by simp [HC.out]; omega) HA.out (by omega) ?_)
          intro w7 hO7 hg7
          have HA7 : Hid (OwnB w7 w.heap.size 6 (92 :: 117 :: (cs ++ [lowD d]))) := hO7
          have HB7 : Hid (OwnB w7 G (6 + u.size) (92 :: 117 :: xs)) := OwnB.grown HB.out hg7 (by omega)
          have hb7 : Below w.heap.size w w7 := hbr.grown hg7 hbr.size (fun k hk => by injection hk with hk; omega)
          clear hO7 hg7 HA HB hbr
          go_wp2_with (at_builtin; refine wpList_pushC _ rfl (.tmp 113) (.tmp 115) rfl G (2 + i) (6 + u.size) (92 :: 117 :: xs) (upD d) _ HW.out rfl rfl (by simp [HXL.out]; omega) HB7.out (by omega) ?_)
          intro w8 hO8 hg8
          have HB8 : Hid (OwnB w8 G (6 + u.size) (92 :: 117 :: (xs ++ [(upD d)]))) := hO8
          have HA8 : Hid (OwnB w8 w.heap.size 6 (92 :: 117 :: (cs ++ [lowD d]))) := OwnB.grown HA7.out hg8 (by omega)
          have hb8 : Below w.heap.size w w8 := hb7.grown hg8 hb7.size (fun k hk => by injection hk with hk; omega)
          clear hO8 hg8 HA7 HB7 hb7
          go_wp2
          go_roundw
          case rel => exact ⟨i + 1, cs ++ [lowD d], xs ++ [(upD d)], by omega, by simp [HC.out], pairs_snoc HP.out (pair_upper d hd h10), rfl, rfl, by go_num, HA8.out, HB8.out, hb8⟩
          case measure => simp [intOf]; omega
        · have HV : Hid ((48 : Int) + (d : Int) = ((lowD d).toNat : Int)) := by
            show _ = _
            rw [lowD_lo d (by omega)]
          go_wp2_with (at_builtin; refine wpList_pushC _ rfl (.tmp 96) (.tmp 98) rfl w.heap.size (2 + i) 6 (92 :: 117 :: cs) (lowD d) _ HV.out rfl rfl (by simp [HC.out]; omega) HA.out (by omega) ?_)
          intro w7 hO7 hg7
          have HA7 : Hid (OwnB w7 w.heap.size 6 (92 :: 117 :: (cs ++ [lowD d]))) := hO7
          have HB7 : Hid (OwnB w7 G (6 + u.size) (92 :: 117 :: xs)) := OwnB.grown HB.out hg7 (by omega)
          have hb7 : Below w.heap.size w w7 := hbr.grown hg7 hbr.size (fun k hk => by injection hk with hk; omega)
          clear hO7 hg7 HA HB hbr
          go_wp2_with (at_builtin; refine wpList_pushC _ rfl (.tmp 113) (.tmp 115) rfl G (2 + i) (6 + u.size) (92 :: 117 :: xs) (lowD d) _ HV.out rfl rfl (by simp [HXL.out]; omega) HB7.out (by omega) ?_)
          intro w8 hO8 hg8
          have HB8 : Hid (OwnB w8 G (6 + u.size) (92 :: 117 :: (xs ++ [(lowD d)]))) := hO8
          have HA8 : Hid (OwnB w8 w.heap.size 6 (92 :: 117 :: (cs ++ [lowD d]))) := OwnB.grown HA7.out hg8 (by omega)
          have hb8 : Below w.heap.size w w8 := hb7.grown hg8 hb7.size (fun k hk => by injection hk with hk; omega)
          clear hO8 hg8 HA7 HB7 hb7
          go_wp2
          go_roundw
          case rel => exact ⟨i + 1, cs ++ [lowD d], xs ++ [(lowD d)], by omega, by simp [HC.out], pairs_snoc HP.out (pair_same d hd), rfl, rfl, by go_num, HA8.out, HB8.out, hb8⟩
          case measure => simp [intOf]; omega
    · have HC2 : Hid (cs.length = 4) := by
        show _ = _
        rw [HC.out]; omega
      have HXL : Hid (xs.length = 4) := by
        show _ = _
        rw [← pairs_len HP.out, HC.out]; omega
      have h4 : 2 + i = 6 := by omega
      have hi2 : (i : Int) = 4 := by omega
      rw [h4, hi2]
      clear h4 hi2 HC
      go_wp2_with fail
      go_loopw [13, 17] (fun vt vm wq => ∃ m : Nat, m ≤ u.size ∧ vm = .int .i64 m ∧ vt = .slice (some ⟨G, 0, none⟩) (6 + m) (6 + u.size) ∧ OwnB wq w.heap.size 6 (92 :: 117 :: cs) ∧ OwnB wq G (6 + u.size) (92 :: 117 :: (xs ++ (L u).take m)) ∧ Below w.heap.size w wq) (fun _ vm _ => u.size - (intOf vm).toNat)
      case atStart => exact ⟨0, by omega, rfl, rfl, HA.out, by simpa using HB.out, hbr⟩
      case round =>
        clear HA HB hbr
        obtain ⟨m, hm, rfl, rfl, hOA, hOB, hbr⟩ := hrel
        have HA : Hid (OwnB wr w.heap.size 6 (92 :: 117 :: cs)) := hOA
        have HB : Hid (OwnB wr G (6 + u.size) (92 :: 117 :: (xs ++ (L u).take m))) := hOB
        clear hOA hOB
        by_cases hlq : m < u.size
        · go_wp2_with (at_builtin; refine wpList_pushC _ rfl (.tmp 123) (.tmp 127) rfl G (6 + m) (6 + u.size) (92 :: 117 :: (xs ++ (L u).take m)) u[m] _ rfl rfl rfl (by simp [HXL.out]; omega) HB.out (by omega) ?_)
          intro w7 hO7 hg7
          have HB7 : Hid (OwnB w7 G (6 + u.size) (92 :: 117 :: (xs ++ (L u).take (m + 1)))) := by
            rw [List.take_succ_eq_append_getElem (by rw [L_len]; exact hlq), L_at u m hlq]
            have e : 92 :: 117 :: (xs ++ ((L u).take m ++ [u[m]])) = (92 :: 117 :: (xs ++ (L u).take m)) ++ [u[m]] := by simp
            rw [e]
            first | exact hO7 | (show OwnB _ _ _ _; simpa using hO7)
          have HA7 : Hid (OwnB w7 w.heap.size 6 (92 :: 117 :: cs)) := OwnB.grown HA.out hg7 (by omega)
          have hb7 : Below w.heap.size w w7 := hbr.grown hg7 hbr.size (fun k hk => by injection hk with hk; omega)
          clear hO7 hg7 HA HB hbr
          go_wp2
          go_roundw
          case rel => exact ⟨m + 1, by omega, by go_num, rfl, HA7.out, HB7.out, hb7⟩
          case measure => simp [intOf]; omega
        · have HB2 : Hid (OwnB wr G (6 + u.size) (92 :: 117 :: (xs ++ L u))) := by
            have := HB.out
            rw [List.take_of_length_le (by rw [L_len]; omega)] at this
            exact this
          have hmu : 6 + m = 6 + u.size := by omega
          rw [hmu]
          clear hmu HB
          have hGl : G < wr.heap.size := HB2.out.lt
          have HCV : Hid ((convert 42 9 (.slice (some ⟨w.heap.size, 0, none⟩) 6 6)).run Try.prog wr = .ok (.string ⟨(92 :: 117 :: cs).toArray⟩) wr) := conv_own HA.out (by simp [HC2.out])
          have hcv := HCV.out
          have HXS : Hid ((xs ++ L u).length = 4 + u.size) := by
            show _ = _
            rw [List.length_append, HXL.out, L_len]
          have HY : Hid (spanAll true (92 :: 117 :: cs) (92 :: 117 :: (xs ++ L u)) = (6, 6, false)) := by
            have := hex_yes 117 (by decide) cs xs (L u) HP.out
            rw [HC2.out] at this
            exact this
          have HNO : Hid (spanAll true (92 :: 117 :: cs) (92 :: 85 :: (xs ++ L u)) = (-1, -1, false)) := hex_no 117 85 (by decide) (by decide) (by decide) cs (xs ++ L u)
          go_wp2_with fail
          refine (newSpelling _ _ _).mono ?_
          rintro e w4 ⟨rfl, f1, f2, f3, f4⟩
          have HB4 : Hid (OwnB w4 G (6 + u.size) (92 :: 117 :: (xs ++ L u))) := HB2.out.below f4 hGl
          have HF1 : Hid (w4.cell? ⟨wr.heap.size, 0, none⟩ = some (.string ⟨(92 :: 117 :: cs).toArray⟩)) := f1
          have HF2 : Hid (w4.cell? ⟨wr.heap.size, 1, none⟩ = some (.bool true)) := f2
          have hb4 : Below w.heap.size w w4 := hbr.trans (f4.mono hbr.size)
          have hspl : wr.heap.size < w4.heap.size := by omega
          generalize wr.heap.size = sp at *
          clear f1 f2 f3 f4 hcv HCV HA HB2 hbr HP HXL
          go_wp2_with fail
          refine (span_own HF1.out HF2.out HB4.out (by simp only [List.length_cons, HXS.out]; omega) (by simp only [List.length_cons, HC2.out]; omega) (by omega) HY.out).mono ?_
          rintro e w5 ⟨rfl, q, rfl⟩
          unfold tup
          go_wp2_with fail
          refine (clone_own (HB4.out.drewN q) (by simp only [List.length_cons, HXS.out]; omega) (by omega)).mono ?_
          have hds : (w4.drewN q).heap.size = w4.heap.size := rfl
          rw [hds]
          rintro e w6 ⟨rfl, hO6, hb6⟩
          have hc1 : w6.cell? ⟨w4.heap.size, 1, none⟩ = some (.int .u8 117) := hO6.cell 1 (by simp)
          have hf1 : w6.frozen? ⟨w4.heap.size, 1, none⟩ = false := OwnB.free hO6 1
          have HO7 : Hid (OwnB (w6.setCell ⟨w4.heap.size, 1, none⟩ (.int .u8 85)) w4.heap.size (6 + u.size) (92 :: 85 :: (xs ++ L u))) := OwnB.set hO6 1 85
          have hb7 : Below w4.heap.size (w4.drewN q) (w6.setCell ⟨w4.heap.size, 1, none⟩ (.int .u8 85)) := hb6.setCell (Nat.le_refl _) _
          have HF3 : Hid ((w6.setCell ⟨w4.heap.size, 1, none⟩ (.int .u8 85)).cell? ⟨sp, 0, none⟩ = some (.string ⟨(92 :: 117 :: cs).toArray⟩)) := (hb7.cell (p := ⟨sp, 0, none⟩) hspl).trans (by have := HF1.out; simpa using this)
          have HF4 : Hid ((w6.setCell ⟨w4.heap.size, 1, none⟩ (.int .u8 85)).cell? ⟨sp, 1, none⟩ = some (.bool true)) := (hb7.cell (p := ⟨sp, 1, none⟩) hspl).trans (by have := HF2.out; simpa using this)
          have hb8 : Below w.heap.size w (w6.setCell ⟨w4.heap.size, 1, none⟩ (.int .u8 85)) := (below_drewN hb4 q).trans (hb7.mono (by omega))
          clear hO6 hb6 hb7 hds HF1 HF2 HB4 hb4
          go_wp2_with fail
          refine (span_own HF3.out HF4.out HO7.out (by simp only [List.length_cons, HXS.out]; omega) (by simp only [List.length_cons, HC2.out]; omega) (by omega) HNO.out).mono ?_
          rintro e w9 ⟨rfl, q2, rfl⟩
          unfold tup
          go_wp2
          go_ret
          exact ⟨rfl, below_drewN hb8 _⟩

set_option maxRecDepth 100000 in
set_option maxHeartbeats 2000000 in
theorem walk_U (a0 a1 a2 : Int) (u : ByteArray) (w : World) (b0 : 0 ≤ a0 ∧ a0 ≤ 255) (b1 : 0 ≤ a1 ∧ a1 ≤ 4294967295) (b2 : 0 ≤ a2 ∧ a2 ≤ 255) (h3 : u.size ≤ 65536) (hk0 : (a0 % 3 == 0) = false) (hk2 : (a0 % 3 == 2) = true) :
    Calls Try.prog 10 #[.int .u8 a0, .int .u32 a1, .int .u8 a2, .string u] w fun e w' => e = .returned (.bool true) ∧ Below w.heap.size w w' := by
  have HZ : Hid (∀ w, Calls Try.prog 31 #[.int .u8 a0, .int .u32 a1, .int .u8 a2, .string u] w fun e w' => e = .returned (.bool true) ∧ w = w') := fun w => (zzbytes a0 a1 a2 u w (by unfold maxLen; omega)).mono (fun e w' ⟨he, hw⟩ => ⟨by rw [he]; simp; omega, hw⟩)
  have e1 : decide (65536 < (u.size : Int)) = false := by simp; omega
  obtain ⟨i0, hi0, hz0, hz1, hz2⟩ := info_parts info5
  have HI : Hid (Try.prog.info? 5 = some i0) := hi0
  clear hi0
  obtain ⟨b00, b01⟩ := b0
  obtain ⟨b10, b11⟩ := b1
  obtain ⟨b20, b21⟩ := b2
  go_enter Try.func10, Try.ntmps10
  go_wp2_with (first
    | (go_at_call 31; refine (HZ.out _).mono ?_; rintro e w' ⟨rfl, rfl⟩)
    | (go_at_call 32; go_in) | (go_at_call 39; go_in)
    | (at_make; refine wpList_make_own _ rfl _ (.tmp 55) 42 rfl w.heap.size 5 i0 (.int .u8 0) 1 Try.underlying42 HI.out hz0 hz1 .i64 .i64 _ 10 rfl rfl ?m1 ?m2 ?m3 (Nat.le_refl _) ?_))
  case m1 => rfl
  case m2 => rw [hz2]; omega
  case m3 => unfold maxLen; omega
  intro w1 hown hgrow
  have HA1 : Hid (OwnB w1 w.heap.size 10 []) := hown
  have hb1 : Below w.heap.size w w1 := (Below.refl _ _).grown hgrow (Nat.le_refl _) (by simp)
  have hG : w.heap.size < w1.heap.size := HA1.out.lt
  clear hown hgrow HZ
  go_wp2_with (at_make; refine wpList_make_own _ rfl _ (.tmp 61) 42 rfl w1.heap.size 5 i0 (.int .u8 0) 1 Try.underlying42 HI.out hz0 hz1 .i64 .i64 _ (10 + u.size) rfl rfl ?m1 ?m2 ?m3 (Nat.le_refl _) ?_)
  case m1 => omega
  case m2 => rw [hz2]; omega
  case m3 => unfold maxLen; omega
  intro w2 hown hgrow
  have HA2 : Hid (OwnB w2 w.heap.size 10 []) := HA1.out.below ((Below.refl _ _).grown hgrow (Nat.le_refl _) (by simp)) hG
  have HB2 : Hid (OwnB w2 w1.heap.size (10 + u.size) []) := hown
  have hb2 : Below w.heap.size w w2 := hb1.grown hgrow (by omega) (by simp)
  clear hown hgrow HA1 hb1
  generalize w1.heap.size = G at *
  clear w1
  go_wp2_with (at_builtin; refine wpList_pushC _ rfl (.tmp 63) (.tmp 64) rfl w.heap.size 0 10 [] 92 92 rfl rfl rfl rfl HA2.out (by omega) ?_)
  intro w3 hO3 hg3
  have HA3 : Hid (OwnB w3 w.heap.size 10 [92]) := hO3
  have HB3 : Hid (OwnB w3 G (10 + u.size) []) := OwnB.grown HB2.out hg3 (by omega)
  have hb3 : Below w.heap.size w w3 := hb2.grown hg3 hb2.size (fun k hk => by injection hk with hk; omega)
  clear hO3 hg3 HA2 HB2 hb2
  go_wp2_with (at_builtin; refine wpList_pushC _ rfl (.tmp 66) (.tmp 68) rfl w.heap.size 1 10 [92] 85 85 rfl rfl rfl rfl HA3.out (by omega) ?_)
  intro w4 hO3 hg3
  have HA4 : Hid (OwnB w4 w.heap.size 10 [92, 85]) := hO3
  have HB4 : Hid (OwnB w4 G (10 + u.size) []) := OwnB.grown HB3.out hg3 (by omega)
  have hb4 : Below w.heap.size w w4 := hb3.grown hg3 hb3.size (fun k hk => by injection hk with hk; omega)
  clear hO3 hg3 HA3 HB3 hb3
  go_wp2_with (at_builtin; refine wpList_pushC _ rfl (.tmp 70) (.tmp 71) rfl G 0 (10 + u.size) [] 92 92 rfl rfl rfl rfl HB4.out (by omega) ?_)
  intro w5 hO3 hg3
  have HB5 : Hid (OwnB w5 G (10 + u.size) [92]) := hO3
  have HA5 : Hid (OwnB w5 w.heap.size 10 [92, 85]) := OwnB.grown HA4.out hg3 (by omega)
  have hb5 : Below w.heap.size w w5 := hb4.grown hg3 hb4.size (fun k hk => by injection hk with hk; omega)
  clear hO3 hg3 HA4 HB4 hb4
  go_wp2_with (at_builtin; refine wpList_pushC _ rfl (.tmp 73) (.tmp 75) rfl G 1 (10 + u.size) [92] 85 85 rfl rfl rfl rfl HB5.out (by omega) ?_)
  intro w6 hO3 hg3
  have HB6 : Hid (OwnB w6 G (10 + u.size) [92, 85]) := hO3
  have HA6 : Hid (OwnB w6 w.heap.size 10 [92, 85]) := OwnB.grown HA5.out hg3 (by omega)
  have hb6 : Below w.heap.size w w6 := hb5.grown hg3 hb5.size (fun k hk => by injection hk with hk; omega)
  clear hO3 hg3 HA5 HB5 hb5
  go_wp2_with fail
  go_loopw [12, 13, 14] (fun ve vt vi wr => ∃ (i : Nat) (cs xs : List UInt8), i ≤ 8 ∧ cs.length = i ∧ Hid (Pairs cs xs) ∧ ve = .slice (some ⟨w.heap.size, 0, none⟩) (2 + i) 10 ∧ vt = .slice (some ⟨G, 0, none⟩) (2 + i) (10 + u.size) ∧ vi = .int .i64 i ∧ OwnB wr w.heap.size 10 (92 :: 85 :: cs) ∧ OwnB wr G (10 + u.size) (92 :: 85 :: xs) ∧ Below w.heap.size w wr) (fun _ _ vi _ => 8 - (intOf vi).toNat)
  case atStart => exact ⟨0, [], [], by omega, rfl, True.intro, rfl, rfl, rfl, HA6.out, HB6.out, hb6⟩
  case round =>
    clear HA6 HB6 hb6
    obtain ⟨i, cs, xs, hi, hcs, HP, rfl, rfl, rfl, hOA, hOB, hbr⟩ := hrel
    have HA : Hid (OwnB wr w.heap.size 10 (92 :: 85 :: cs)) := hOA
    have HB : Hid (OwnB wr G (10 + u.size) (92 :: 85 :: xs)) := hOB
    have HC : Hid (cs.length = i) := hcs
    clear hOA hOB hcs
    by_cases hlt : i < 8
    · have hlt' : (i : Int) < 8 := by omega
      obtain ⟨d, hD, hd⟩ := nib (a1 / 2 ^ (4 * i)) (shr_bd a1 _ b10 b11).1 (shr_bd a1 _ b10 b11).2
      have hd' : (d : Int) < 16 := by omega
      have HXL : Hid (xs.length = i) := by
        show _ = _
        rw [← pairs_len HP.out]; exact HC.out
      cases hub : (bits .and .u8 (a2 / 2 ^ i) 1 == 1)
      · by_cases h10 : 10 ≤ d
        · have HV : Hid ((97 : Int) + (d : Int) - 10 = ((lowD d).toNat : Int)) := by
            show _ = _
            rw [lowD_hi d h10 hd]; omega
          go_wp2_with (at_builtin; refine wpList_pushC _ rfl (.tmp 96) (.tmp 98) rfl w.heap.size (2 + i) 10 (92 :: 85 :: cs) (lowD d) _ HV.out rfl rfl (by simp [HC.out]; omega) HA.out (by omega) ?_)
          intro w7 hO7 hg7
          have HA7 : Hid (OwnB w7 w.heap.size 10 (92 :: 85 :: (cs ++ [lowD d]))) := hO7
          have HB7 : Hid (OwnB w7 G (10 + u.size) (92 :: 85 :: xs)) := OwnB.grown HB.out hg7 (by omega)
          have hb7 : Below w.heap.size w w7 := hbr.grown hg7 hbr.size (fun k hk => by injection hk with hk; omega)
          clear hO7 hg7 HA HB hbr
          go_wp2_with (at_builtin; refine wpList_pushC _ rfl (.tmp 113) (.tmp 115) rfl G (2 + i) (10 + u.size) (92 :: 85 :: xs) (lowD d) _ HV.out rfl rfl (by simp [HXL.out]; omega) HB7.out (by omega) ?_)
          intro w8 hO8 hg8
          have HB8 : Hid (OwnB w8 G (10 + u.size) (92 :: 85 :: (xs ++ [(lowD d)]))) := hO8
          have HA8 : Hid (OwnB w8 w.heap.size 10 (92 :: 85 :: (cs ++ [lowD d]))) := OwnB.grown HA7.out hg8 (by omega)
          have hb8 : Below w.heap.size w w8 := hb7.grown hg8 hb7.size (fun k hk => by injection hk with hk; omega)
          clear hO8 hg8 HA7 HB7 hb7
          go_wp2
          go_roundw
          case rel => exact ⟨i + 1, cs ++ [lowD d], xs ++ [(lowD d)], by omega, by simp [HC.out], pairs_snoc HP.out (pair_same d hd), rfl, rfl, by go_num, HA8.out, HB8.out, hb8⟩
          case measure => simp [intOf]; omega
        · have HV : Hid ((48 : Int) + (d : Int) = ((lowD d).toNat : Int)) := by
            show _ = _
            rw [lowD_lo d (by omega)]
          go_wp2_with (at_builtin; refine wpList_pushC _ rfl (.tmp 96) (.tmp 98) rfl w.heap.size (2 + i) 10 (92 :: 85 :: cs) (lowD d) _ HV.out rfl rfl (by simp [HC.out]; omega) HA.out (by omega) ?_)
          intro w7 hO7 hg7
          have HA7 : Hid (OwnB w7 w.heap.size 10 (92 :: 85 :: (cs ++ [lowD d]))) := hO7
          have HB7 : Hid (OwnB w7 G (10 + u.size) (92 :: 85 :: xs)) := OwnB.grown HB.out hg7 (by omega)
          have hb7 : Below w.heap.size w w7 := hbr.grown hg7 hbr.size (fun k hk => by injection hk with hk; omega)
          clear hO7 hg7 HA HB hbr
          go_wp2_with (at_builtin; refine wpList_pushC _ rfl (.tmp 113) (.tmp 115) rfl G (2 + i) (10 + u.size) (92 :: 85 :: xs) (lowD d) _ HV.out rfl rfl (by simp [HXL.out]; omega) HB7.out (by omega) ?_)
          intro w8 hO8 hg8
          have HB8 : Hid (OwnB w8 G (10 + u.size) (92 :: 85 :: (xs ++ [(lowD d)]))) := hO8
          have HA8 : Hid (OwnB w8 w.heap.size 10 (92 :: 85 :: (cs ++ [lowD d]))) := OwnB.grown HA7.out hg8 (by omega)
          have hb8 : Below w.heap.size w w8 := hb7.grown hg8 hb7.size (fun k hk => by injection hk with hk; omega)
          clear hO8 hg8 HA7 HB7 hb7
          go_wp2
          go_roundw
          case rel => exact ⟨i + 1, cs ++ [lowD d], xs ++ [(lowD d)], by omega, by simp [HC.out], pairs_snoc HP.out (pair_same d hd), rfl, rfl, by go_num, HA8.out, HB8.out, hb8⟩
          case measure => simp [intOf]; omega
      · by_cases h10 : 10 ≤ d
        · have HV : Hid ((97 : Int) + (d : Int) - 10 = ((lowD d).toNat : Int)) := by
            show _ = _
            rw [lowD_hi d h10 hd]; omega
          have HW : Hid ((97 : Int) + (d : Int) - 10 - 97 + 65 = ((upD d).toNat : Int)) := by
            show _ = ((UInt8.ofNat (55 + d)).toNat : Int)
            simp; omega
          go_wp2_with (at_builtin; refine wpList_pushC _ rfl (.tmp 96) (.tmp 98) rfl w.heap.size (2 + i) 10 (92 :: 85 :: cs) (lowD d) _ HV.out rfl rfl (by simp [HC.out]; omega) HA.out (by omega) ?_)
          intro w7 hO7 hg7
          have HA7 : Hid (OwnB w7 w.heap.size 10 (92 :: 85 :: (cs ++ [lowD d]))) := hO7
          have HB7 : Hid (OwnB w7 G (10 + u.size) (92 :: 85 :: xs)) := OwnB.grown HB.out hg7 (by omega)
          have hb7 : Below w.heap.size w w7 := hbr.grown hg7 hbr.size (fun k hk => by injection hk with hk; omega)
          clear hO7 hg7 HA HB hbr
          go_wp2_with (at_builtin; refine wpList_pushC _ rfl (.tmp 113) (.tmp 115) rfl G (2 + i) (10 + u.size) (92 :: 85 :: xs) (upD d) _ HW.out rfl rfl (by simp [HXL.out]; omega) HB7.out (by omega) ?_)
          intro w8 hO8 hg8
          have HB8 : Hid (OwnB w8 G (10 + u.size) (92 :: 85 :: (xs ++ [(upD d)]))) := hO8
          have HA8 : Hid (OwnB w8 w.heap.size 10 (92 :: 85 :: (cs ++ [lowD d]))) := OwnB.grown HA7.out hg8 (by omega)
          have hb8 : Below w.heap.size w w8 := hb7.grown hg8 hb7.size (fun k hk => by injection hk with hk; omega)
          clear hO8 hg8 HA7 HB7 hb7
          go_wp2
          go_roundw
          case rel => exact ⟨i + 1, cs ++ [lowD d], xs ++ [(upD d)], by omega, by simp [HC.out], pairs_snoc HP.out (pair_upper d hd h10), rfl, rfl, by go_num, HA8.out, HB8.out, hb8⟩
          case measure => simp [intOf]; omega
        · have HV : Hid ((48 : Int) + (d : Int) = ((lowD d).toNat : Int)) := by
            show _ = _
            rw [lowD_lo d (by omega)]
          go_wp2_with (at_builtin; refine wpList_pushC _ rfl (.tmp 96) (.tmp 98) rfl w.heap.size (2 + i) 10 (92 :: 85 :: cs) (lowD d) _ HV.out rfl rfl (by simp [HC.out]; omega) HA.out (by omega) ?_)
          intro w7 hO7 hg7
          have HA7 : Hid (OwnB w7 w.heap.size 10 (92 :: 85 :: (cs ++ [lowD d]))) := hO7
          have HB7 : Hid (OwnB w7 G (10 + u.size) (92 :: 85 :: xs)) := OwnB.grown HB.out hg7 (by omega)
          have hb7 : Below w.heap.size w w7 := hbr.grown hg7 hbr.size (fun k hk => by injection hk with hk; omega)
          clear hO7 hg7 HA HB hbr
          go_wp2_with (at_builtin; refine wpList_pushC _ rfl (.tmp 113) (.tmp 115) rfl G (2 + i) (10 + u.size) (92 :: 85 :: xs) (lowD d) _ HV.out rfl rfl (by simp [HXL.out]; omega) HB7.out (by omega) ?_)
          intro w8 hO8 hg8
          have HB8 : Hid (OwnB w8 G (10 + u.size) (92 :: 85 :: (xs ++ [(lowD d)]))) := hO8
          have HA8 : Hid (OwnB w8 w.heap.size 10 (92 :: 85 :: (cs ++ [lowD d]))) := OwnB.grown HA7.out hg8 (by omega)
          have hb8 : Below w.heap.size w w8 := hb7.grown hg8 hb7.size (fun k hk => by injection hk with hk; omega)
          clear hO8 hg8 HA7 HB7 hb7
          go_wp2
          go_roundw
          case rel => exact ⟨i + 1, cs ++ [lowD d], xs ++ [(lowD d)], by omega, by simp [HC.out], pairs_snoc HP.out (pair_same d hd), rfl, rfl, by go_num, HA8.out, HB8.out, hb8⟩
          case measure => simp [intOf]; omega
    · have HC2 : Hid (cs.length = 8) := by
        show _ = _
        rw [HC.out]; omega
      have HXL : Hid (xs.length = 8) := by
        show _ = _
        rw [← pairs_len HP.out, HC.out]; omega
      have h4 : 2 + i = 10 := by omega
      have hi2 : (i : Int) = 8 := by omega
      rw [h4, hi2]
      clear h4 hi2 HC
      go_wp2_with fail
      go_loopw [13, 17] (fun vt vm wq => ∃ m : Nat, m ≤ u.size ∧ vm = .int .i64 m ∧ vt = .slice (some ⟨G, 0, none⟩) (10 + m) (10 + u.size) ∧ OwnB wq w.heap.size 10 (92 :: 85 :: cs) ∧ OwnB wq G (10 + u.size) (92 :: 85 :: (xs ++ (L u).take m)) ∧ Below w.heap.size w wq) (fun _ vm _ => u.size - (intOf vm).toNat)
      case atStart => exact ⟨0, by omega, rfl, rfl, HA.out, by simpa using HB.out, hbr⟩
      case round =>
        clear HA HB hbr
        obtain ⟨m, hm, rfl, rfl, hOA, hOB, hbr⟩ := hrel
        have HA : Hid (OwnB wr w.heap.size 10 (92 :: 85 :: cs)) := hOA
        have HB : Hid (OwnB wr G (10 + u.size) (92 :: 85 :: (xs ++ (L u).take m))) := hOB
        clear hOA hOB
        by_cases hlq : m < u.size
        · go_wp2_with (at_builtin; refine wpList_pushC _ rfl (.tmp 123) (.tmp 127) rfl G (10 + m) (10 + u.size) (92 :: 85 :: (xs ++ (L u).take m)) u[m] _ rfl rfl rfl (by simp [HXL.out]; omega) HB.out (by omega) ?_)
          intro w7 hO7 hg7
          have HB7 : Hid (OwnB w7 G (10 + u.size) (92 :: 85 :: (xs ++ (L u).take (m + 1)))) := by
            rw [List.take_succ_eq_append_getElem (by rw [L_len]; exact hlq), L_at u m hlq]
            have e : 92 :: 85 :: (xs ++ ((L u).take m ++ [u[m]])) = (92 :: 85 :: (xs ++ (L u).take m)) ++ [u[m]] := by simp
            rw [e]
            first | exact hO7 | (show OwnB _ _ _ _; simpa using hO7)
          have HA7 : Hid (OwnB w7 w.heap.size 10 (92 :: 85 :: cs)) := OwnB.grown HA.out hg7 (by omega)
          have hb7 : Below w.heap.size w w7 := hbr.grown hg7 hbr.size (fun k hk => by injection hk with hk; omega)
          clear hO7 hg7 HA HB hbr
          go_wp2
          go_roundw
          case rel => exact ⟨m + 1, by omega, by go_num, rfl, HA7.out, HB7.out, hb7⟩
          case measure => simp [intOf]; omega
        · have HB2 : Hid (OwnB wr G (10 + u.size) (92 :: 85 :: (xs ++ L u))) := by
            have := HB.out
            rw [List.take_of_length_le (by rw [L_len]; omega)] at this
            exact this
          have hmu : 10 + m = 10 + u.size := by omega
          rw [hmu]
          clear hmu HB
          have hGl : G < wr.heap.size := HB2.out.lt
          have HCV : Hid ((convert 42 9 (.slice (some ⟨w.heap.size, 0, none⟩) 10 10)).run Try.prog wr = .ok (.string ⟨(92 :: 85 :: cs).toArray⟩) wr) := conv_own HA.out (by simp [HC2.out])
          have hcv := HCV.out
          have HXS : Hid ((xs ++ L u).length = 8 + u.size) := by
            show _ = _
            rw [List.length_append, HXL.out, L_len]
          have HY : Hid (spanAll true (92 :: 85 :: cs) (92 :: 85 :: (xs ++ L u)) = (10, 10, false)) := by
            have := hex_yes 85 (by decide) cs xs (L u) HP.out
            rw [HC2.out] at this
            exact this
          have HNO : Hid (spanAll true (92 :: 85 :: cs) (92 :: 117 :: (xs ++ L u)) = (-1, -1, false)) := hex_no 85 117 (by decide) (by decide) (by decide) cs (xs ++ L u)
          go_wp2_with fail
          refine (newSpelling _ _ _).mono ?_
          rintro e w4 ⟨rfl, f1, f2, f3, f4⟩
          have HB4 : Hid (OwnB w4 G (10 + u.size) (92 :: 85 :: (xs ++ L u))) := HB2.out.below f4 hGl
          have HF1 : Hid (w4.cell? ⟨wr.heap.size, 0, none⟩ = some (.string ⟨(92 :: 85 :: cs).toArray⟩)) := f1
          have HF2 : Hid (w4.cell? ⟨wr.heap.size, 1, none⟩ = some (.bool true)) := f2
          have hb4 : Below w.heap.size w w4 := hbr.trans (f4.mono hbr.size)
          have hspl : wr.heap.size < w4.heap.size := by omega
          generalize wr.heap.size = sp at *
          clear f1 f2 f3 f4 hcv HCV HA HB2 hbr HP HXL
          go_wp2_with fail
          refine (span_own HF1.out HF2.out HB4.out (by simp only [List.length_cons, HXS.out]; omega) (by simp only [List.length_cons, HC2.out]; omega) (by omega) HY.out).mono ?_
          rintro e w5 ⟨rfl, q, rfl⟩
          unfold tup
          go_wp2_with fail
          refine (clone_own (HB4.out.drewN q) (by simp only [List.length_cons, HXS.out]; omega) (by omega)).mono ?_
          have hds : (w4.drewN q).heap.size = w4.heap.size := rfl
          rw [hds]
          rintro e w6 ⟨rfl, hO6, hb6⟩
          have hc1 : w6.cell? ⟨w4.heap.size, 1, none⟩ = some (.int .u8 85) := hO6.cell 1 (by simp)
          have hf1 : w6.frozen? ⟨w4.heap.size, 1, none⟩ = false := OwnB.free hO6 1
          have HO7 : Hid (OwnB (w6.setCell ⟨w4.heap.size, 1, none⟩ (.int .u8 117)) w4.heap.size (10 + u.size) (92 :: 117 :: (xs ++ L u))) := OwnB.set hO6 1 117
          have hb7 : Below w4.heap.size (w4.drewN q) (w6.setCell ⟨w4.heap.size, 1, none⟩ (.int .u8 117)) := hb6.setCell (Nat.le_refl _) _
          have HF3 : Hid ((w6.setCell ⟨w4.heap.size, 1, none⟩ (.int .u8 117)).cell? ⟨sp, 0, none⟩ = some (.string ⟨(92 :: 85 :: cs).toArray⟩)) := (hb7.cell (p := ⟨sp, 0, none⟩) hspl).trans (by have := HF1.out; simpa using this)
          have HF4 : Hid ((w6.setCell ⟨w4.heap.size, 1, none⟩ (.int .u8 117)).cell? ⟨sp, 1, none⟩ = some (.bool true)) := (hb7.cell (p := ⟨sp, 1, none⟩) hspl).trans (by have := HF2.out; simpa using this)
          have hb8 : Below w.heap.size w (w6.setCell ⟨w4.heap.size, 1, none⟩ (.int .u8 117)) := (below_drewN hb4 q).trans (hb7.mono (by omega))
          clear hO6 hb6 hb7 hds HF1 HF2 HB4 hb4
          go_wp2_with fail
          refine (span_own HF3.out HF4.out HO7.out (by simp only [List.length_cons, HXS.out]; omega) (by simp only [List.length_cons, HC2.out]; omega) (by omega) HNO.out).mono ?_
          rintro e w9 ⟨rfl, q2, rfl⟩
          unfold tup
          go_wp2
          go_ret
          exact ⟨rfl, below_drewN hb8 _⟩


set_option maxRecDepth 100000 in
set_option maxHeartbeats 1000000 in
theorem walk (a0 : Int) (a1 : Int) (a2 : Int) (a3 : ByteArray) (w0 : (Lit.int .u8 a0).wf = true) (w1 : (Lit.int .u32 a1).wf = true) (w2 : (Lit.int .u8 a2).wf = true) (w3 : a3.size ≤ maxLen) (w : World) :
    Calls Try.prog 10 #[.int .u8 a0, .int .u32 a1, .int .u8 a2, .string a3] w fun e w' => e = .returned (.bool true) ∧ Below w.heap.size w w' := by
  have c0 := bounds_u8 w0
  have c1 := bounds_u32 w1
  have c2 := bounds_u8 w2
  by_cases h3 : a3.size ≤ 65536
  · cases hk0 : (a0 % 3 == 0)
    · cases hk2 : (a0 % 3 == 2)
      · exact walk_u a0 a1 a2 a3 w c0 c1 c2 h3 hk0 hk2
      · exact walk_U a0 a1 a2 a3 w c0 c1 c2 h3 hk0 hk2
    · exact walk_x a0 a1 a2 a3 w c0 c1 c2 h3 hk0
  · have hz := fun w => zzbytes a0 a1 a2 a3 w w3
    have HZ : Hid (∀ w, Calls Try.prog 31 #[.int .u8 a0, .int .u32 a1, .int .u8 a2, .string a3] w fun e w' => e = .returned (.bool (decide (a3.size ≤ 1048576))) ∧ w = w') := hz
    clear hz
    unfold maxLen at w3
    by_cases h4 : a3.size ≤ 1048576
    all_goals
      go_enter Try.func10, Try.ntmps10
      go_wp2_with (go_at_call 31; refine (HZ.out _).mono ?_; rintro e w' ⟨rfl, rfl⟩)
      go_ret
      exact ⟨rfl, Below.refl _ _⟩

/-! ### THE ROW's STEP: WRITTEN OUT: LEAVE IT -/
set_option maxRecDepth 100000 in
theorem lifted (os : Os) (started : os.Started) (H : Type) (enc : TypeId × Value → H) :
    ReturnsInHanded {} Try.checked os 10 .any (Rows.fnSpanHexEscapeEitherCaseSpec.pre6 enc Try.prog Try.f10 Rows.fnSpanHexEscapeEitherCaseRow.domain false) (Rows.fnSpanHexEscapeEitherCaseSpec.post enc Try.prog Try.f10 false true false false) := by
  refine returnsInHanded_of_change (C := Try.checked) own started (by kernel_rfl) Try.func10
    (ChangeSpec.witness6 (enc := enc) (C := Try.checked) false ⟨#[], #[.int .u8 0, .int .u32 0, .int .u8 0, .string ByteArray.empty], []⟩ 8 (by kernel_rfl) (by kernel_rfl) (by kernel_rfl) (by kernel_rfl)) ?_
  intro W base args ds gs before hval0 hW hcnd _
  have hval : ∀ (j : Nat) t v, Try.f10.params[j]? = some t → args[j]? = some v → Value.okWide Try.prog W .any base t v := hval0
  have hW' := hW
  obtain ⟨p, q, hA0, hV, rfl, hfz, hnd⟩ := hW
  have hA : DataW.TrodAll enc Try.prog W 0 (fun _ => true) true Try.f10.params.toList args.toList ds p := hA0
  rw [Try.params10] at hA hval
  obtain ⟨v0, vs0, d0, ds0, p0, q0, hargs, rfl, rfl, h0, r0⟩ := trodAll_cons hA
  obtain ⟨v1, vs1, d1, ds1, p1, q1, rfl, rfl, rfl, h1, r1⟩ := trodAll_cons r0
  obtain ⟨v2, vs2, d2, ds2, p2, q2, rfl, rfl, rfl, h2, r2⟩ := trodAll_cons r1
  obtain ⟨v3, vs3, d3, ds3, p3, q3, rfl, rfl, rfl, h3, r3⟩ := trodAll_cons r2
  obtain ⟨rfl, rfl, rfl⟩ := trodAll_nil r3
  obtain rfl : args = #[v0, v1, v2, v3] := by cases args; simp_all
  obtain ⟨rfl, rfl⟩ := trodVars_none hV
  obtain ⟨a0, rfl, rfl, rfl, w0⟩ := open_int Try.underlying5 (hval 0 5 v0 rfl rfl) h0
  obtain ⟨a1, rfl, rfl, rfl, w1⟩ := open_int Try.underlying51 (hval 1 51 v1 rfl rfl) h1
  obtain ⟨a2, rfl, rfl, rfl, w2⟩ := open_int Try.underlying5 (hval 2 5 v2 rfl rfl) h2
  obtain ⟨a3, rfl, rfl, rfl, w3⟩ := open_string Try.underlying9 (hval 3 9 v3 rfl rfl) h3
  clear hA0 hval0
  simp only [List.append_nil] at hW'
  refine (walk a0 a1 a2 a3 w0 w1 w2 w3 W).mono fun e W' ⟨he, bel⟩ => ?_
  subst he
  exact ⟨_, rfl, _, _, _, [], _, [], hW', trodAll_mk1 (shut_bool Try.underlying4 _), (trodAll_cons_mk (shut_int Try.underlying5 w0) (trodAll_cons_mk (shut_int Try.underlying51 w1) (trodAll_cons_mk (shut_int Try.underlying5 w2) (trodAll_cons_mk (shut_string Try.underlying9 w3) trodAll_mk0)))), rfl, bel.frame _, fun h => by cases h⟩

theorem over : Rows.fnSpanHexEscapeEitherCaseRow.holds Try.pinned (OpenSpec.ofChange Rows.fnSpanHexEscapeEitherCaseSpec) :=
  OpenClaim.holds_of_wide 10 Try.f10 rfl rfl rfl rfl rfl rfl rfl ⟨rfl, rfl, rfl, rfl, rfl⟩ rfl rfl rfl rfl rfl (by kernel_rfl) Try.func10 (by kernel_rfl)
    (of_decide_eq_true (by kernel_rfl)) (by unfold Func.isWrapper; first | (rw [if_pos (by decide +kernel)]; kernel_rfl) | (rw [if_neg (by decide +kernel)]; exact ⟨rfl, rfl⟩))
    (fun os started H enc _ => lifted os started H enc)

/-- ████ THE STATEMENT ████ -/
theorem proved : Rows.FnSpanHexEscapeEitherCaseSaid :=
  over
#print axioms proved
end Go.Proofs.Qxb6001664a.fnSpanHexEscapeEitherCase
