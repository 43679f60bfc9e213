/- 'Rows.FnListedReplacesOrAppendsSaid': the law's walk in its three kinds (old nil, old not listed, old listed); then the row's step (closed limb by limb, over 'Below'). -/
import Derived.Test.Qxb6001664aListedCalls
namespace Go.Proofs.Qxb6001664a.fnListedReplacesOrAppends
open Go.ChangeShapes Go.WideShapes Go.ChangeAt Go.RowKit
set_option linter.unusedVariables false

/-- The backing array at block B: room for n, the first k filled with pointers to blocks f j of their own. -/
structure Pats (w : World) (B n k : Nat) (f : Nat → Nat) : Prop where
  blk : ∃ cur : Array Value, w.heap[B]? = some (.cells cur 38 (0, 0)) ∧ cur.size = n
  cell : ∀ j, j < k → w.cell? ⟨B, j, none⟩ = some (ptr (f j))
  obj : ∀ j, j < k → IsObj w (f j)
  lt : ∀ j, j < k → f j < w.heap.size
  inj : ∀ i j, i < j → j < k → f i ≠ f j

theorem lt_of_blk {w : World} {b : Nat} {o : Obj} (h : w.heap[b]? = some o) : b < w.heap.size := by
  rcases Nat.lt_or_ge b w.heap.size with hlt | hge
  · exact hlt
  · rw [Array.getElem?_eq_none hge] at h; cases h

theorem Pats.blt {w : World} {B n k : Nat} {f : Nat → Nat} (h : Pats w B n k f) : B < w.heap.size := by
  obtain ⟨cur, hh, _⟩ := h.blk
  exact lt_of_blk hh

theorem Pats.there {w : World} {B n k : Nat} {f : Nat → Nat} (h : Pats w B n k f) (j : Nat) (hj : j < n) : ∃ v, w.cell? ⟨B, j, none⟩ = some v := by
  obtain ⟨cur, hh, hc⟩ := h.blk
  refine ⟨cur[j]'(by omega), ?_⟩
  simp [World.cell?, hh]

theorem Pats.free {w : World} {B n k : Nat} {f : Nat → Nat} (h : Pats w B n k f) (j : Nat) : w.frozen? ⟨B, j, none⟩ = false := by
  obtain ⟨cur, hh, hc⟩ := h.blk
  simp [World.frozen?, hh]

theorem IsObj.below {w w' : World} {b m : Nat} (h : IsObj w b) (hb : Below m w w') (hm : b < m) : IsObj w' b := by
  obtain ⟨c, t, h⟩ := h
  exact ⟨c, t, by rw [hb.block b hm]; exact h⟩
theorem IsObj.set {w : World} {b : Nat} (h : IsObj w b) (g k : Nat) (v : Value) : IsObj (w.setCell ⟨g, k, none⟩ v) b := by
  obtain ⟨c, t, h⟩ := h
  by_cases e : b = g
  · subst e; exact ⟨_, t, heap_setCell_same w b k c t v h⟩
  · exact ⟨c, t, by rw [heap_setCell_other w _ b v e]; exact h⟩

theorem Pats.below {w w' : World} {B n k : Nat} {f : Nat → Nat} (h : Pats w B n k f) (hb : Below w.heap.size w w') : Pats w' B n k f := by
  obtain ⟨cur, hh, hc⟩ := h.blk
  refine ⟨⟨cur, by rw [hb.block B h.blt]; exact hh, hc⟩, fun j hj => ?_, fun j hj => (h.obj j hj).below hb (h.lt j hj), fun j hj => Nat.lt_of_lt_of_le (h.lt j hj) hb.size, h.inj⟩
  rw [hb.cell (p := ⟨B, j, none⟩) h.blt]; exact h.cell j hj

theorem Pats.step {w w2 : World} {B n k : Nat} {f : Nat → Nat} (h : Pats w B n k f) (hk : k < n) (hb : Below w.heap.size w w2) (ho : IsObj w2 w.heap.size) (hs : w2.heap.size = w.heap.size + 1) :
    Pats (w2.setCell ⟨B, k, none⟩ (ptr w.heap.size)) B n (k + 1) (fun j => if j = k then w.heap.size else f j) := by
  have h2 := h.below hb
  obtain ⟨cur, hh, hc⟩ := h2.blk
  refine ⟨⟨_, heap_setCell_same w2 B k cur 38 _ hh, by simpa using hc⟩, fun j hj => ?_, fun j hj => ?_, fun j hj => ?_, fun i j hij hj => ?_⟩
  · by_cases e : j = k
    · subst e
      obtain ⟨v, hv⟩ := h2.there j hk
      simp
      go_simp
    · have := h2.cell j (by omega)
      simp [e]
      go_simp
  · by_cases e : j = k
    · simp only [if_pos e]; exact ho.set _ _ _
    · simp only [if_neg e]; exact (h2.obj j (by omega)).set _ _ _
  · simp only [World.size_setCell]
    by_cases e : j = k
    · simp only [if_pos e]; omega
    · simp only [if_neg e]; have := h.lt j (by omega); omega
  · by_cases e : j = k
    · have := h.lt i (by omega)
      simp only [if_neg (show ¬ i = k by omega), if_pos e]; omega
    · simp only [if_neg (show ¬ i = k by omega), if_neg e]; exact h.inj i j hij (by omega)

theorem pats_start {w w1 : World} {n : Nat} {xs : List Value} (hown : w1.ownsRow w.heap.size 38 1 (.slice (some ⟨w.heap.size, 0, none⟩) n n) n xs) : Pats w1 w.heap.size n 0 (fun _ => 0) := by
  obtain ⟨h1, h2 | ⟨g, cap, cur, hv, hg, hh, hc, _, hs, _⟩⟩ := hown
  · cases h2.1
  · injection hv with e1 e2 e3
    injection e1 with e1
    injection e1 with e1
    subst e1; subst e3
    exact ⟨⟨cur, hh, by omega⟩, fun j hj => by omega, fun j hj => by omega, fun j hj => by omega, fun i j hij hj => by omega⟩

theorem made_start {w : World} {wr : World} {n : Nat} {xs : List Value} (hown : w.ownsRow wr.heap.size 38 1 (.slice (some ⟨wr.heap.size, 0, none⟩) n n) n xs) : ∃ cur : List Value, w.heap[wr.heap.size]? = some (.cells cur.toArray 38 (0, 0)) ∧ cur.length = n := by
  obtain ⟨h1, h2 | ⟨g, cap, cur, hv, hg, hh, hc, _, hs, _⟩⟩ := hown
  · cases h2.1
  · injection hv with e1 e2 e3
    injection e1 with e1
    injection e1 with e1
    subst e1; subst e3
    exact ⟨cur.toList, by simpa using hh, by simp; omega⟩

theorem own_block {w : World} {g n : Nat} {f : Nat → Value} {cur : List Value} (hl : cur.length = n) (h : w.heap[g]? = some (.cells (splice cur 0 (vals n f)).toArray 38 (0, 0))) : Own w g n f := by
  have e : splice cur 0 (vals n f) = vals n f := by
    unfold splice
    rw [vals_len, List.drop_eq_nil_of_le (by omega)]
    simp
  rw [e] at h
  refine ⟨⟨_, h, by simp [vals_len]⟩, fun j hj => ?_⟩
  simp [World.cell?, h, vals_get hj]

theorem size38 : (Try.prog.info? 38).map (·.size) = some 1 := by kernel_rfl

set_option maxRecDepth 100000 in
set_option maxHeartbeats 400000 in
theorem walk2 (n m : Nat) (a2 : Int) (hn : n ≤ 64) (hm : m < n) (b0 : 0 ≤ a2) (b1 : a2 ≤ 255) (h2 : (a2 % 3 == 2) = true) (w : World) :
    Calls Try.prog 7 #[.int .i64 n, .int .i64 m, .int .u8 a2] w fun e w' => e = .returned (.bool true) ∧ Below w.heap.size w w' := by
  have h1 : (a2 % 3 == 1) = false := by simp at h2 ⊢; omega
  have e1 : decide ((n : Int) < 0) = false := by simp
  have e2 : decide (64 < (n : Int)) = false := by simp; omega
  have e3 : decide ((m : Int) < 0) = false := by simp
  have e4 : decide ((n : Int) ≤ (m : Int)) = false := by simp; omega
  obtain ⟨i0, hi, hz0, hz1, hz2⟩ := info_parts info38
  have HI : Hid (Try.prog.info? 38 = some i0) := hi
  clear hi
  go_enter Try.func7, Try.ntmps7
  go_wp2_with (first | (at_make; refine wpList_make_full _ rfl (.tmp 39) (.tmp 39) 37 rfl w.heap.size 38 i0 (.pointer none) 1 Try.underlying37 HI.out hz0 hz1 .i64 .i64 _ _ (n + 1) rfl rfl ?m1 ?m2 ?m3 ?m4 (Nat.le_refl _) ?_))
  case m1 => omega
  case m2 => omega
  case m3 => rw [hz2]; omega
  case m4 => unfold maxLen; omega
  intro w1 hown hgrow
  have hP := pats_start hown
  have hb : Below w.heap.size w w1 := (Below.refl _ _).grown hgrow (Nat.le_refl _) (by simp)
  have HP : Hid (Pats w1 w.heap.size (n + 1) 0 (fun _ => 0)) := hP
  clear hown hgrow hP
  go_wp2_with fail
  go_loopw [9] (fun i wr => ∃ k : Nat, ∃ f : Nat → Nat, k ≤ n + 1 ∧ i = .int .i64 k ∧ Pats wr w.heap.size (n + 1) k f ∧ Below w.heap.size w wr) (fun i _ => n + 1 - (intOf i).toNat)
  case atStart => exact ⟨0, _, by omega, rfl, HP.out, hb⟩
  case round =>
    clear HP hb w1
    obtain ⟨k, f, hk, rfl, hP, hb⟩ := hrel
    have HP : Hid (Pats wr w.heap.size (n + 1) k f) := hP
    by_cases hlt : k < n + 1
    · obtain ⟨v, hv⟩ := hP.there k hlt
      have hf := hP.free k
      have hlt' := hP.blt
      clear hP
      go_wp2_with (go_at_call 24; refine (newPattern _ _).mono ?_; rintro e w2 ⟨rfl, hs2, ho2, hb2⟩; have hv2 := (hb2.cell (p := ⟨w.heap.size, k, none⟩) hlt').trans hv; have hf2 := (hb2.frozen (p := ⟨w.heap.size, k, none⟩) hlt').trans hf)
      go_roundw
      case rel => exact ⟨k + 1, _, by omega, by go_num, HP.out.step hlt hb2 ho2 hs2, (hb.trans (hb2.mono (by omega))).setCell (Nat.le_refl _) _⟩
      case measure => simp [intOf]; omega
    · obtain rfl : k = n + 1 := by omega
      have hsent := hP.cell n (by omega)
      have hlt' := hP.blt
      clear hP
      go_wp2_with (first | (at_make; refine wpList_make_full _ rfl (.tmp 57) (.tmp 57) 37 rfl wr.heap.size 38 i0 (.pointer none) 1 Try.underlying37 HI.out hz0 hz1 .i64 .i64 _ _ n rfl rfl ?m1 ?m2 ?m3 ?m4 (Nat.le_refl _) ?_))
      case m1 => rfl
      case m2 => rfl
      case m3 => rw [hz2]; omega
      case m4 => unfold maxLen; omega
      intro w1 hown hgrow
      obtain ⟨cur, hcur, hlen⟩ := made_start hown
      have hb1 : Below wr.heap.size wr w1 := (Below.refl _ _).grown hgrow (Nat.le_refl _) (by simp)
      have HC : Hid (w1.heap[wr.heap.size]? = some (.cells cur.toArray 38 (0, 0))) := hcur
      clear hown hgrow hcur
      go_wp2_with (refine wpList_copy_splice rfl (.tmp 59) (.tmp 60) 37 37 rfl 38 Try.underlying37 size38 (some ⟨wr.heap.size, 0, none⟩) (some ⟨w.heap.size, 0, none⟩) n n n (n + 1) rfl rfl wr.heap.size 0 cur 38 HC.out (vals n fun j => ptr (f j)) ?k1 ?k2 ?k3 ?k4 wr.heap.size wr hb1 (Nat.le_refl _) ?_)
      case k1 => simp [vals_len]
      case k2 =>
        intro _ j v hj
        obtain ⟨hj1, rfl⟩ := vals_at hj
        rw [hb1.cell (p := ⟨w.heap.size, j, none⟩) hlt']
        exact HP.out.cell j (by omega)
      case k3 => rw [vals_len]; omega
      case k4 =>
        intro u hu
        obtain ⟨j, hj, rfl⟩ := List.mem_map.1 hu
        rfl
      intro w2 hW2 hb2
      have hO : Own w2 wr.heap.size n (fun j => ptr (f j)) := own_block hlen hW2.out
      have hP2 := HP.out.below hb2
      have hb3 : Below w.heap.size w w2 := hb.trans (hb2.mono (by omega))
      have hB : w.heap.size < wr.heap.size := hlt'
      generalize wr.heap.size = G at *
      clear hW2 HC hb1 hlen HP hsent hb2 hb
      clear w1 wr
      have hold := hP2.cell m (by omega)
      have hlt2 := hP2.blt
      have hG := hO.lt
      have HP2 : Hid (Pats w2 w.heap.size (n + 1) (n + 1) f) := hP2
      have HO : Hid (Own w2 G n fun j => ptr (f j)) := hO
      clear hP2 hO
      go_wp2_with (go_at_call 24; refine (newPattern _ _).mono ?_)
      rintro e w3 ⟨rfl, hs3, ho3, hb4⟩
      have HP3 : Hid (Pats w3 w.heap.size (n + 1) (n + 1) f) := HP2.out.below hb4
      have HO3 : Hid (Own w3 G n fun j => ptr (f j)) := HO.out.below hb4 hG
      have hb5 : Below w.heap.size w w3 := hb3.trans (hb4.mono (by omega))
      generalize w2.heap.size = p at *
      have hB3 : w.heap.size < w3.heap.size := by omega
      have hG3 : G < w3.heap.size := by omega
      clear hs3
      clear HP2 HO hold ho3 hb4 hb3
      clear w2
      go_wp2_with (go_at_call 25; refine (zzlisted_rep w.heap.size n (n + 1) m p f _ hn hm hB3 (fun j hj => HP3.out.cell j (by omega)) (fun j hj => (HP3.out.inj j m hj (by omega)).symm) (fun j hj => HP3.out.obj j (by omega))).mono ?_)
      rintro e w4 ⟨g, c, rfl, hc, hg, hO4, hb6⟩
      have HP4 : Hid (Pats w4 w.heap.size (n + 1) (n + 1) f) := HP3.out.below hb6
      have HO4 : Hid (Own w4 G n fun j => ptr (f j)) := HO3.out.below hb6 hG3
      have HR4 : Hid (Own w4 g n fun j => if j = m then ptr p else ptr (f j)) := hO4
      have hb7 : Below w.heap.size w w4 := hb5.trans (hb6.mono (by omega))
      have hB4 : w.heap.size < w4.heap.size := HP4.out.blt
      have hG4 : G < w4.heap.size := HO4.out.lt
      have hg4 : g < w4.heap.size := hO4.lt
      clear HP3 HO3 hO4 hb6 hb5 hB3 hG3 hg
      clear w3
      go_wp2_with fail
      go_loopw [16] (fun i wr => ∃ k : Nat, k ≤ n ∧ i = .int .i64 k ∧ Below w4.heap.size w4 wr) (fun i _ => n - (intOf i).toNat)
      case atStart => exact ⟨0, by omega, rfl, Below.refl _ _⟩
      case round =>
        obtain ⟨k, hk, rfl, hbr⟩ := hrel
        by_cases hlt : k < n
        · have c1 := (hbr.cell (p := ⟨w.heap.size, k, none⟩) hB4).trans (HP4.out.cell k (by omega))
          have c2 := (hbr.cell (p := ⟨G, k, none⟩) hG4).trans (HO4.out.row k hlt)
          have hns := fun w => neq_same w ⟨f k, 0, none⟩
          have i1 : (k : Int) < (n : Int) := by omega
          go_wp2_with fail
          go_quiet (fail)
          go_wp2
          go_roundw
          case rel => exact ⟨k + 1, by omega, by go_num, below_drewN hbr _⟩
          case measure => simp [intOf]; omega
        · have c1 := (hbr.cell (p := ⟨w.heap.size, n, none⟩) hB4).trans (HP4.out.cell n (by omega))
          have hns := fun w => neq_same w ⟨f n, 0, none⟩
          go_wp2_with fail
          go_loopw [17] (fun i wr => ∃ k : Nat, k ≤ n ∧ i = .int .i64 k ∧ Below w4.heap.size w4 wr) (fun i _ => n - (intOf i).toNat)
          case atStart => exact ⟨0, by omega, rfl, hbr⟩
          case round =>
            clear c1 hns hbr hlt hk
            obtain ⟨k, hk, rfl, hbr⟩ := hrel
            by_cases hlt : k < n
            · have c1 := (hbr.cell (p := ⟨g, k, none⟩) hg4).trans (HR4.out.row k hlt)
              have c2 := (hbr.cell (p := ⟨G, k, none⟩) hG4).trans (HO4.out.row k hlt)
              have i1 : (k : Int) < (n : Int) := by omega
              by_cases hkm : k = m
              · have ek : ((k : Int) == (m : Int)) = true := by simp; omega
                rw [if_pos hkm] at c1
                clear c2 hkm
                have hns := fun w => neq_same w ⟨p, 0, none⟩
                go_wp2
                go_roundw
                case rel => exact ⟨k + 1, by omega, by go_num, hbr⟩
                case measure => simp [intOf]; omega
              · have ek : ((k : Int) == (m : Int)) = false := by simp; omega
                rw [if_neg hkm] at c1
                clear hkm
                have hns := fun w => neq_same w ⟨f k, 0, none⟩
                go_wp2_with fail
                go_quiet (fail)
                go_wp2
                go_roundw
                case rel => exact ⟨k + 1, by omega, by go_num, below_drewN hbr _⟩
                case measure => simp [intOf]; omega
            · go_wp2
              go_ret
              exact ⟨rfl, hb7.trans (hbr.mono (by omega))⟩

set_option maxRecDepth 100000 in
set_option maxHeartbeats 400000 in
theorem walk0 (n : Nat) (a1 a2 : Int) (hn : n ≤ 64) (b0 : 0 ≤ a2) (b1 : a2 ≤ 255) (h2 : (a2 % 3 == 2) = false) (h1 : (a2 % 3 == 1) = false) (w : World) :
    Calls Try.prog 7 #[.int .i64 n, .int .i64 a1, .int .u8 a2] w fun e w' => e = .returned (.bool true) ∧ Below w.heap.size w w' := by
  have e1 : decide ((n : Int) < 0) = false := by simp
  have e2 : decide (64 < (n : Int)) = false := by simp; omega
  obtain ⟨i0, hi, hz0, hz1, hz2⟩ := info_parts info38
  have HI : Hid (Try.prog.info? 38 = some i0) := hi
  clear hi
  go_enter Try.func7, Try.ntmps7
  go_wp2_with (first | (at_make; refine wpList_make_full _ rfl (.tmp 39) (.tmp 39) 37 rfl w.heap.size 38 i0 (.pointer none) 1 Try.underlying37 HI.out hz0 hz1 .i64 .i64 _ _ (n + 1) rfl rfl ?m1 ?m2 ?m3 ?m4 (Nat.le_refl _) ?_))
  case m1 => omega
  case m2 => omega
  case m3 => rw [hz2]; omega
  case m4 => unfold maxLen; omega
  intro w1 hown hgrow
  have hP := pats_start hown
  have hb : Below w.heap.size w w1 := (Below.refl _ _).grown hgrow (Nat.le_refl _) (by simp)
  have HP : Hid (Pats w1 w.heap.size (n + 1) 0 (fun _ => 0)) := hP
  clear hown hgrow hP
  go_wp2_with fail
  go_loopw [9] (fun i wr => ∃ k : Nat, ∃ f : Nat → Nat, k ≤ n + 1 ∧ i = .int .i64 k ∧ Pats wr w.heap.size (n + 1) k f ∧ Below w.heap.size w wr) (fun i _ => n + 1 - (intOf i).toNat)
  case atStart => exact ⟨0, _, by omega, rfl, HP.out, hb⟩
  case round =>
    clear HP hb w1
    obtain ⟨k, f, hk, rfl, hP, hb⟩ := hrel
    have HP : Hid (Pats wr w.heap.size (n + 1) k f) := hP
    by_cases hlt : k < n + 1
    · obtain ⟨v, hv⟩ := hP.there k hlt
      have hf := hP.free k
      have hlt' := hP.blt
      clear hP
      go_wp2_with (go_at_call 24; refine (newPattern _ _).mono ?_; rintro e w2 ⟨rfl, hs2, ho2, hb2⟩; have hv2 := (hb2.cell (p := ⟨w.heap.size, k, none⟩) hlt').trans hv; have hf2 := (hb2.frozen (p := ⟨w.heap.size, k, none⟩) hlt').trans hf)
      go_roundw
      case rel => exact ⟨k + 1, _, by omega, by go_num, HP.out.step hlt hb2 ho2 hs2, (hb.trans (hb2.mono (by omega))).setCell (Nat.le_refl _) _⟩
      case measure => simp [intOf]; omega
    · obtain rfl : k = n + 1 := by omega
      have hsent := hP.cell n (by omega)
      have hlt' := hP.blt
      clear hP
      go_wp2_with (first | (at_make; refine wpList_make_full _ rfl (.tmp 57) (.tmp 57) 37 rfl wr.heap.size 38 i0 (.pointer none) 1 Try.underlying37 HI.out hz0 hz1 .i64 .i64 _ _ n rfl rfl ?m1 ?m2 ?m3 ?m4 (Nat.le_refl _) ?_))
      case m1 => rfl
      case m2 => rfl
      case m3 => rw [hz2]; omega
      case m4 => unfold maxLen; omega
      intro w1 hown hgrow
      obtain ⟨cur, hcur, hlen⟩ := made_start hown
      have hb1 : Below wr.heap.size wr w1 := (Below.refl _ _).grown hgrow (Nat.le_refl _) (by simp)
      have HC : Hid (w1.heap[wr.heap.size]? = some (.cells cur.toArray 38 (0, 0))) := hcur
      clear hown hgrow hcur
      go_wp2_with (refine wpList_copy_splice rfl (.tmp 59) (.tmp 60) 37 37 rfl 38 Try.underlying37 size38 (some ⟨wr.heap.size, 0, none⟩) (some ⟨w.heap.size, 0, none⟩) n n n (n + 1) rfl rfl wr.heap.size 0 cur 38 HC.out (vals n fun j => ptr (f j)) ?k1 ?k2 ?k3 ?k4 wr.heap.size wr hb1 (Nat.le_refl _) ?_)
      case k1 => simp [vals_len]
      case k2 =>
        intro _ j v hj
        obtain ⟨hj1, rfl⟩ := vals_at hj
        rw [hb1.cell (p := ⟨w.heap.size, j, none⟩) hlt']
        exact HP.out.cell j (by omega)
      case k3 => rw [vals_len]; omega
      case k4 =>
        intro u hu
        obtain ⟨j, hj, rfl⟩ := List.mem_map.1 hu
        rfl
      intro w2 hW2 hb2
      have hO : Own w2 wr.heap.size n (fun j => ptr (f j)) := own_block hlen hW2.out
      have hP2 := HP.out.below hb2
      have hb3 : Below w.heap.size w w2 := hb.trans (hb2.mono (by omega))
      have hB : w.heap.size < wr.heap.size := hlt'
      generalize wr.heap.size = G at *
      clear hW2 HC hb1 hlen HP hsent hb2 hb
      clear w1 wr
      have hlt2 := hP2.blt
      have hG := hO.lt
      have HP2 : Hid (Pats w2 w.heap.size (n + 1) (n + 1) f) := hP2
      have HO : Hid (Own w2 G n fun j => ptr (f j)) := hO
      clear hP2 hO
      go_wp2_with (go_at_call 24; refine (newPattern _ _).mono ?_)
      rintro e w3 ⟨rfl, hs3, ho3, hb4⟩
      have HP3 : Hid (Pats w3 w.heap.size (n + 1) (n + 1) f) := HP2.out.below hb4
      have HO3 : Hid (Own w3 G n fun j => ptr (f j)) := HO.out.below hb4 hG
      have hb5 : Below w.heap.size w w3 := hb3.trans (hb4.mono (by omega))
      generalize w2.heap.size = p at *
      have hB3 : w.heap.size < w3.heap.size := by omega
      have hG3 : G < w3.heap.size := by omega
      clear hs3
      clear HP2 HO ho3 hb4 hb3
      clear w2
      go_wp2_with (go_at_call 25; refine (zzlisted_app w.heap.size n (n + 1) p none f _ hn (by omega) hB3 (fun j hj => HP3.out.cell j (by omega)) (fun j hj => eql_nil _ _)).mono ?_)
      rintro e w4 ⟨g, c, rfl, hc, hg, hO4, hb6⟩
      have HP4 : Hid (Pats w4 w.heap.size (n + 1) (n + 1) f) := HP3.out.below hb6
      have HO4 : Hid (Own w4 G n fun j => ptr (f j)) := HO3.out.below hb6 hG3
      have HR4 : Hid (Own w4 g (n + 1) fun j => if j = n then ptr p else ptr (f j)) := hO4
      have hb7 : Below w.heap.size w w4 := hb5.trans (hb6.mono (by omega))
      have hB4 : w.heap.size < w4.heap.size := HP4.out.blt
      have hG4 : G < w4.heap.size := HO4.out.lt
      have hg4 : g < w4.heap.size := hO4.lt
      clear HP3 HO3 hO4 hb6 hb5 hB3 hG3 hg
      clear w3
      go_wp2_with fail
      go_loopw [16] (fun i wr => ∃ k : Nat, k ≤ n ∧ i = .int .i64 k ∧ Below w4.heap.size w4 wr) (fun i _ => n - (intOf i).toNat)
      case atStart => exact ⟨0, by omega, rfl, Below.refl _ _⟩
      case round =>
        obtain ⟨k, hk, rfl, hbr⟩ := hrel
        by_cases hlt : k < n
        · have c1 := (hbr.cell (p := ⟨w.heap.size, k, none⟩) hB4).trans (HP4.out.cell k (by omega))
          have c2 := (hbr.cell (p := ⟨G, k, none⟩) hG4).trans (HO4.out.row k hlt)
          have hns := fun w => neq_same w ⟨f k, 0, none⟩
          have i1 : (k : Int) < (n : Int) := by omega
          go_wp2_with fail
          go_quiet (fail)
          go_wp2
          go_roundw
          case rel => exact ⟨k + 1, by omega, by go_num, below_drewN hbr _⟩
          case measure => simp [intOf]; omega
        · have c1 := (hbr.cell (p := ⟨w.heap.size, n, none⟩) hB4).trans (HP4.out.cell n (by omega))
          have c2 := (hbr.cell (p := ⟨g, n, none⟩) hg4).trans (HR4.out.row n (by omega))
          rw [if_pos rfl] at c2
          have hns := fun w => neq_same w ⟨f n, 0, none⟩
          have hnp := fun w => neq_same w ⟨p, 0, none⟩
          go_wp2_with fail
          go_loopw [18] (fun i wr => ∃ k : Nat, k ≤ n ∧ i = .int .i64 k ∧ Below w4.heap.size w4 wr) (fun i _ => n - (intOf i).toNat)
          case atStart => exact ⟨0, by omega, rfl, hbr⟩
          case round =>
            clear c1 c2 hns hnp hbr hlt hk
            obtain ⟨k, hk, rfl, hbr⟩ := hrel
            by_cases hlt : k < n
            · have c1 := (hbr.cell (p := ⟨g, k, none⟩) hg4).trans (HR4.out.row k (by omega))
              have c2 := (hbr.cell (p := ⟨G, k, none⟩) hG4).trans (HO4.out.row k hlt)
              have i1 : (k : Int) < (n : Int) := by omega
              rw [if_neg (by omega)] at c1
              have hns := fun w => neq_same w ⟨f k, 0, none⟩
              go_wp2_with fail
              go_quiet (fail)
              go_wp2
              go_roundw
              case rel => exact ⟨k + 1, by omega, by go_num, below_drewN hbr _⟩
              case measure => simp [intOf]; omega
            · go_wp2
              go_ret
              exact ⟨rfl, hb7.trans (hbr.mono (by omega))⟩

set_option maxRecDepth 100000 in
set_option maxHeartbeats 400000 in
theorem walk1 (n : Nat) (a1 a2 : Int) (hn : n ≤ 64) (b0 : 0 ≤ a2) (b1 : a2 ≤ 255) (h2 : (a2 % 3 == 2) = false) (h1 : (a2 % 3 == 1) = true) (w : World) :
    Calls Try.prog 7 #[.int .i64 n, .int .i64 a1, .int .u8 a2] w fun e w' => e = .returned (.bool true) ∧ Below w.heap.size w w' := by
  have e1 : decide ((n : Int) < 0) = false := by simp
  have e2 : decide (64 < (n : Int)) = false := by simp; omega
  obtain ⟨i0, hi, hz0, hz1, hz2⟩ := info_parts info38
  have HI : Hid (Try.prog.info? 38 = some i0) := hi
  clear hi
  go_enter Try.func7, Try.ntmps7
  go_wp2_with (first | (at_make; refine wpList_make_full _ rfl (.tmp 39) (.tmp 39) 37 rfl w.heap.size 38 i0 (.pointer none) 1 Try.underlying37 HI.out hz0 hz1 .i64 .i64 _ _ (n + 1) rfl rfl ?m1 ?m2 ?m3 ?m4 (Nat.le_refl _) ?_))
  case m1 => omega
  case m2 => omega
  case m3 => rw [hz2]; omega
  case m4 => unfold maxLen; omega
  intro w1 hown hgrow
  have hP := pats_start hown
  have hb : Below w.heap.size w w1 := (Below.refl _ _).grown hgrow (Nat.le_refl _) (by simp)
  have HP : Hid (Pats w1 w.heap.size (n + 1) 0 (fun _ => 0)) := hP
  clear hown hgrow hP
  go_wp2_with fail
  go_loopw [9] (fun i wr => ∃ k : Nat, ∃ f : Nat → Nat, k ≤ n + 1 ∧ i = .int .i64 k ∧ Pats wr w.heap.size (n + 1) k f ∧ Below w.heap.size w wr) (fun i _ => n + 1 - (intOf i).toNat)
  case atStart => exact ⟨0, _, by omega, rfl, HP.out, hb⟩
  case round =>
    clear HP hb w1
    obtain ⟨k, f, hk, rfl, hP, hb⟩ := hrel
    have HP : Hid (Pats wr w.heap.size (n + 1) k f) := hP
    by_cases hlt : k < n + 1
    · obtain ⟨v, hv⟩ := hP.there k hlt
      have hf := hP.free k
      have hlt' := hP.blt
      clear hP
      go_wp2_with (go_at_call 24; refine (newPattern _ _).mono ?_; rintro e w2 ⟨rfl, hs2, ho2, hb2⟩; have hv2 := (hb2.cell (p := ⟨w.heap.size, k, none⟩) hlt').trans hv; have hf2 := (hb2.frozen (p := ⟨w.heap.size, k, none⟩) hlt').trans hf)
      go_roundw
      case rel => exact ⟨k + 1, _, by omega, by go_num, HP.out.step hlt hb2 ho2 hs2, (hb.trans (hb2.mono (by omega))).setCell (Nat.le_refl _) _⟩
      case measure => simp [intOf]; omega
    · obtain rfl : k = n + 1 := by omega
      have hsent := hP.cell n (by omega)
      have hlt' := hP.blt
      clear hP
      go_wp2_with (first | (at_make; refine wpList_make_full _ rfl (.tmp 57) (.tmp 57) 37 rfl wr.heap.size 38 i0 (.pointer none) 1 Try.underlying37 HI.out hz0 hz1 .i64 .i64 _ _ n rfl rfl ?m1 ?m2 ?m3 ?m4 (Nat.le_refl _) ?_))
      case m1 => rfl
      case m2 => rfl
      case m3 => rw [hz2]; omega
      case m4 => unfold maxLen; omega
      intro w1 hown hgrow
      obtain ⟨cur, hcur, hlen⟩ := made_start hown
      have hb1 : Below wr.heap.size wr w1 := (Below.refl _ _).grown hgrow (Nat.le_refl _) (by simp)
      have HC : Hid (w1.heap[wr.heap.size]? = some (.cells cur.toArray 38 (0, 0))) := hcur
      clear hown hgrow hcur
      go_wp2_with (refine wpList_copy_splice rfl (.tmp 59) (.tmp 60) 37 37 rfl 38 Try.underlying37 size38 (some ⟨wr.heap.size, 0, none⟩) (some ⟨w.heap.size, 0, none⟩) n n n (n + 1) rfl rfl wr.heap.size 0 cur 38 HC.out (vals n fun j => ptr (f j)) ?k1 ?k2 ?k3 ?k4 wr.heap.size wr hb1 (Nat.le_refl _) ?_)
      case k1 => simp [vals_len]
      case k2 =>
        intro _ j v hj
        obtain ⟨hj1, rfl⟩ := vals_at hj
        rw [hb1.cell (p := ⟨w.heap.size, j, none⟩) hlt']
        exact HP.out.cell j (by omega)
      case k3 => rw [vals_len]; omega
      case k4 =>
        intro u hu
        obtain ⟨j, hj, rfl⟩ := List.mem_map.1 hu
        rfl
      intro w2 hW2 hb2
      have hO : Own w2 wr.heap.size n (fun j => ptr (f j)) := own_block hlen hW2.out
      have hP2 := HP.out.below hb2
      have hb3 : Below w.heap.size w w2 := hb.trans (hb2.mono (by omega))
      have hB : w.heap.size < wr.heap.size := hlt'
      generalize wr.heap.size = G at *
      clear hW2 HC hb1 hlen HP hsent hb2 hb
      clear w1 wr
      have hlt2 := hP2.blt
      have hG := hO.lt
      have HP2 : Hid (Pats w2 w.heap.size (n + 1) (n + 1) f) := hP2
      have HO : Hid (Own w2 G n fun j => ptr (f j)) := hO
      clear hP2 hO
      go_wp2_with (go_at_call 24; refine (newPattern _ _).mono ?_)
      rintro e wq ⟨rfl, hsq, hoq, hbq⟩
      have HPq : Hid (Pats wq w.heap.size (n + 1) (n + 1) f) := HP2.out.below hbq
      have HOq : Hid (Own wq G n fun j => ptr (f j)) := HO.out.below hbq hG
      have hbq2 : Below w.heap.size w wq := hb3.trans (hbq.mono (by omega))
      have HF : Hid (∀ j, j < n + 1 → f j < w2.heap.size) := HP2.out.lt
      generalize w2.heap.size = o at *
      have hGq : G < wq.heap.size := by omega
      have hBq : w.heap.size < wq.heap.size := by omega
      have hoq2 : o < wq.heap.size := by omega
      clear HP2 HO hbq hb3 hsq
      clear w2
      go_wp2_with (go_at_call 24; refine (newPattern _ _).mono ?_)
      rintro e w3 ⟨rfl, hs3, ho3, hb4⟩
      have HP3 : Hid (Pats w3 w.heap.size (n + 1) (n + 1) f) := HPq.out.below hb4
      have HO3 : Hid (Own w3 G n fun j => ptr (f j)) := HOq.out.below hb4 hGq
      have hb5 : Below w.heap.size w w3 := hbq2.trans (hb4.mono (by omega))
      have HQ : Hid (IsObj w3 o) := hoq.below hb4 hoq2
      generalize wq.heap.size = p at *
      have hB3 : w.heap.size < w3.heap.size := by omega
      have hG3 : G < w3.heap.size := by omega
      clear hs3
      clear HPq HOq hoq ho3 hb4 hbq2
      clear wq
      have HE : Hid (∀ j, j < n → (binOp .eql 38 (.pointer (some ⟨o, 0, none⟩)) (ptr (f j))).run Try.prog w3 = .ok (.bool false) w3) := fun j hj => eql_other w3 o (f j) (by have := HF.out j (by omega); omega) HQ.out (HP3.out.obj j (by omega))
      have HZ : Hid (Calls Try.prog 25 #[.slice (some ⟨w.heap.size, 0, none⟩) n (n + 1), ptr o, ptr p] w3 fun e w' => ∃ g c, e = .returned (.slice (some ⟨g, 0, none⟩) (n + 1) c) ∧ n + 1 ≤ c ∧ w3.heap.size ≤ g ∧ Own w' g (n + 1) (fun j => if j = n then ptr p else ptr (f j)) ∧ Below w3.heap.size w3 w') := zzlisted_app w.heap.size n (n + 1) p (some ⟨o, 0, none⟩) f w3 hn (by omega) hB3 (fun j hj => HP3.out.cell j (by omega)) HE.out
      go_wp2_with (go_at_call 25; refine HZ.out.mono ?_)
      rintro e w4 ⟨g, c, rfl, hc, hg, hO4, hb6⟩
      have HP4 : Hid (Pats w4 w.heap.size (n + 1) (n + 1) f) := HP3.out.below hb6
      have HO4 : Hid (Own w4 G n fun j => ptr (f j)) := HO3.out.below hb6 hG3
      have HR4 : Hid (Own w4 g (n + 1) fun j => if j = n then ptr p else ptr (f j)) := hO4
      have hb7 : Below w.heap.size w w4 := hb5.trans (hb6.mono (by omega))
      have hB4 : w.heap.size < w4.heap.size := HP4.out.blt
      have hG4 : G < w4.heap.size := HO4.out.lt
      have hg4 : g < w4.heap.size := hO4.lt
      clear HP3 HO3 hO4 hb6 hb5 hB3 hG3 hg
      clear HQ HF hoq2 hGq hBq HE HZ
      clear w3
      go_wp2_with fail
      go_loopw [16] (fun i wr => ∃ k : Nat, k ≤ n ∧ i = .int .i64 k ∧ Below w4.heap.size w4 wr) (fun i _ => n - (intOf i).toNat)
      case atStart => exact ⟨0, by omega, rfl, Below.refl _ _⟩
      case round =>
        obtain ⟨k, hk, rfl, hbr⟩ := hrel
        by_cases hlt : k < n
        · have c1 := (hbr.cell (p := ⟨w.heap.size, k, none⟩) hB4).trans (HP4.out.cell k (by omega))
          have c2 := (hbr.cell (p := ⟨G, k, none⟩) hG4).trans (HO4.out.row k hlt)
          have hns := fun w => neq_same w ⟨f k, 0, none⟩
          have i1 : (k : Int) < (n : Int) := by omega
          go_wp2_with fail
          go_quiet (fail)
          go_wp2
          go_roundw
          case rel => exact ⟨k + 1, by omega, by go_num, below_drewN hbr _⟩
          case measure => simp [intOf]; omega
        · have c1 := (hbr.cell (p := ⟨w.heap.size, n, none⟩) hB4).trans (HP4.out.cell n (by omega))
          have c2 := (hbr.cell (p := ⟨g, n, none⟩) hg4).trans (HR4.out.row n (by omega))
          rw [if_pos rfl] at c2
          have hns := fun w => neq_same w ⟨f n, 0, none⟩
          have hnp := fun w => neq_same w ⟨p, 0, none⟩
          go_wp2_with fail
          go_loopw [18] (fun i wr => ∃ k : Nat, k ≤ n ∧ i = .int .i64 k ∧ Below w4.heap.size w4 wr) (fun i _ => n - (intOf i).toNat)
          case atStart => exact ⟨0, by omega, rfl, hbr⟩
          case round =>
            clear c1 c2 hns hnp hbr hlt hk
            obtain ⟨k, hk, rfl, hbr⟩ := hrel
            by_cases hlt : k < n
            · have c1 := (hbr.cell (p := ⟨g, k, none⟩) hg4).trans (HR4.out.row k (by omega))
              have c2 := (hbr.cell (p := ⟨G, k, none⟩) hG4).trans (HO4.out.row k hlt)
              have i1 : (k : Int) < (n : Int) := by omega
              rw [if_neg (by omega)] at c1
              have hns := fun w => neq_same w ⟨f k, 0, none⟩
              go_wp2_with fail
              go_quiet (fail)
              go_wp2
              go_roundw
              case rel => exact ⟨k + 1, by omega, by go_num, below_drewN hbr _⟩
              case measure => simp [intOf]; omega
            · go_wp2
              go_ret
              exact ⟨rfl, hb7.trans (hbr.mono (by omega))⟩


theorem own : ownKnob Try.prog.godebug = none := by kernel_rfl

theorem walk (a0 : Int) (a1 : Int) (a2 : Int) (w0 : (Lit.int .i64 a0).wf = true) (w1 : (Lit.int .i64 a1).wf = true) (w2 : (Lit.int .u8 a2).wf = true) (w : World) :
    Calls Try.prog 7 #[.int .i64 a0, .int .i64 a1, .int .u8 a2] w fun e w' => e = .returned (.bool true) ∧ Below w.heap.size w w' := by
  have bd2 := bounds_u8 w2
  by_cases ha : a0 < 0
  · go_enter Try.func7, Try.ntmps7
    go_wp2
    go_ret
    exact ⟨rfl, Below.refl _ _⟩
  by_cases hb : a0 > 64
  · go_enter Try.func7, Try.ntmps7
    go_wp2
    go_ret
    exact ⟨rfl, Below.refl _ _⟩
  obtain ⟨n, rfl⟩ := Int.eq_ofNat_of_zero_le (show 0 ≤ a0 by omega)
  cases h2 : (a2 % 3 == 2)
  · cases h1 : (a2 % 3 == 1)
    · exact walk0 n a1 a2 (by omega) bd2.1 bd2.2 h2 h1 w
    · exact walk1 n a1 a2 (by omega) bd2.1 bd2.2 h2 h1 w
  · by_cases hc : a1 < 0
    · have e1 : decide ((n : Int) < 0) = false := by simp
      have e2 : decide (64 < (n : Int)) = false := by simp; omega
      go_enter Try.func7, Try.ntmps7
      go_wp2
      go_ret
      exact ⟨rfl, Below.refl _ _⟩
    · by_cases hd : (n : Int) ≤ a1
      · have e1 : decide ((n : Int) < 0) = false := by simp
        have e2 : decide (64 < (n : Int)) = false := by simp; omega
        go_enter Try.func7, Try.ntmps7
        go_wp2
        go_ret
        exact ⟨rfl, Below.refl _ _⟩
      · obtain ⟨m, rfl⟩ := Int.eq_ofNat_of_zero_le (show 0 ≤ a1 by omega)
        exact walk2 n m a2 (by omega) (by omega) bd2.1 bd2.2 h2 w

/-! ### THE ROW's STEP: WRITTEN OUT: LEAVE IT -/
set_option maxRecDepth 100000 in
theorem lifted (os : Os) (started : os.Started) (H : Type) (enc : TypeId × Value → H) :
    ReturnsInHanded {} Try.checked os 7 .any (Rows.fnListedReplacesOrAppendsSpec.pre6 enc Try.prog Try.f7 Rows.fnListedReplacesOrAppendsRow.domain false) (Rows.fnListedReplacesOrAppendsSpec.post enc Try.prog Try.f7 false true false false) := by
  refine returnsInHanded_of_change (C := Try.checked) own started (by kernel_rfl) Try.func7
    (ChangeSpec.witness6 (enc := enc) (C := Try.checked) false ⟨#[], #[.int .i64 0, .int .i64 0, .int .u8 0], []⟩ 8 (by kernel_rfl) (by kernel_rfl) (by kernel_rfl) (by kernel_rfl)) ?_
  intro W base args ds gs before hval0 hW hcnd _
  have hval : ∀ (j : Nat) t v, Try.f7.params[j]? = some t → args[j]? = some v → Value.okWide Try.prog W .any base t v := hval0
  have hW' := hW
  obtain ⟨p, q, hA0, hV, rfl, hfz, hnd⟩ := hW
  have hA : DataW.TrodAll enc Try.prog W 0 (fun _ => true) true Try.f7.params.toList args.toList ds p := hA0
  rw [Try.params7] at hA hval
  obtain ⟨v0, vs0, d0, ds0, p0, q0, hargs, rfl, rfl, h0, r0⟩ := trodAll_cons hA
  obtain ⟨v1, vs1, d1, ds1, p1, q1, rfl, rfl, rfl, h1, r1⟩ := trodAll_cons r0
  obtain ⟨v2, vs2, d2, ds2, p2, q2, rfl, rfl, rfl, h2, r2⟩ := trodAll_cons r1
  obtain ⟨rfl, rfl, rfl⟩ := trodAll_nil r2
  obtain rfl : args = #[v0, v1, v2] := by cases args; simp_all
  obtain ⟨rfl, rfl⟩ := trodVars_none hV
  obtain ⟨a0, rfl, rfl, rfl, w0⟩ := open_int Try.underlying3 (hval 0 3 v0 rfl rfl) h0
  obtain ⟨a1, rfl, rfl, rfl, w1⟩ := open_int Try.underlying3 (hval 1 3 v1 rfl rfl) h1
  obtain ⟨a2, rfl, rfl, rfl, w2⟩ := open_int Try.underlying5 (hval 2 5 v2 rfl rfl) h2
  clear hA0 hval0
  simp only [List.append_nil] at hW'
  refine (walk a0 a1 a2 w0 w1 w2 W).mono fun e W' ⟨he, bel⟩ => ?_
  subst he
  exact ⟨_, rfl, _, _, _, [], _, [], hW', trodAll_mk1 (shut_bool Try.underlying4 _), (trodAll_cons_mk (shut_int Try.underlying3 w0) (trodAll_cons_mk (shut_int Try.underlying3 w1) (trodAll_cons_mk (shut_int Try.underlying5 w2) trodAll_mk0))), rfl, bel.frame _, fun h => by cases h⟩

theorem over : Rows.fnListedReplacesOrAppendsRow.holds Try.pinned (OpenSpec.ofChange Rows.fnListedReplacesOrAppendsSpec) :=
  OpenClaim.holds_of_wide 7 Try.f7 rfl rfl rfl rfl rfl rfl rfl ⟨rfl, rfl, rfl, rfl, rfl⟩ rfl rfl rfl rfl rfl (by kernel_rfl) Try.func7 (by kernel_rfl)
    (of_decide_eq_true (by kernel_rfl)) (by unfold Func.isWrapper; first | (rw [if_pos (by decide +kernel)]; kernel_rfl) | (rw [if_neg (by decide +kernel)]; exact ⟨rfl, rfl⟩))
    (fun os started H enc _ => lifted os started H enc)

/-- ████ THE STATEMENT ████ -/
theorem proved : Rows.FnListedReplacesOrAppendsSaid :=
  over
#print axioms proved
end Go.Proofs.Qxb6001664a.fnListedReplacesOrAppends
